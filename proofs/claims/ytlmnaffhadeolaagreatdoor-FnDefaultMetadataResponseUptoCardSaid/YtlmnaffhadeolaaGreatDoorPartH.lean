/- FnDefaultMetadataResponse: the row, and its card, its one listed variable tied to the program's text (the tie is given). Conditions: those of the row, no others. -/
import Derived.Test.YtlmnaffhadeolaaGreatDoorPartG
import Derived.Test.YtlmnaffhadeolaaGreatDoorPartE
import Derived.Test.YtlmnaffhadeolaaGreatDoorPartA
import Derived.Test.YtlmnaffhadeolaaGreatDoorPartD
import Derived.Test.YtlmnaffhadeolaaGreatDoorPartF
import Derived.Test.YtlmnaffhadeolaaGreatDoorPartC
import Derived.ProofKit
import Derived.OpenShut
import Derived.Test.YtlmnaffhadeolaaGreatDoorRows
import Derived.Test.YtlmnaffhadeolaaGreatDoorCards
import Derived.Test.YtlmnaffhadeolaaGreatDoorTie
import Derived.ChangeSame
import Derived.ChangeVars
import Derived.JoinedOf
import Derived.RowKit
import Derived.RowKitTokens
import Derived.LaidLaws
import Derived.LaidHandle
import Derived.Stop.Joined
import Derived.SevenTiedAt
import Derived.Deep.DeepHandedRow
import Derived.Deep.DeepWitnessRowRef
set_option linter.all false
namespace Go.Proofs.YtlmnaffhadeolaaGreatDoor.Rdk
open Go Go.RowKit
theorem allRd_nil {P : Program} : ∀ x ∈ ([] : List (Nat × Rp)), RdC P x.1 x.2 := fun x h => by cases h
theorem allRd_cons {P : Program} {f : Nat} {p : Rp} {l : List (Nat × Rp)} (h : RdC P f p) (hl : ∀ x ∈ l, RdC P x.1 x.2) : ∀ x ∈ (f, p) :: l, RdC P x.1 x.2 := fun x hx => by
 rcases List.mem_cons.1 hx with rfl | hm
 ·exact h
 ·exact hl x hm
theorem allLen_nil {P : Program} : ∀ x ∈ ([] : List (Nat × Bool)), LenC P x.1 x.2 := fun x h => by cases h
theorem allLen_cons {P : Program} {f : Nat} {p : Bool} {l : List (Nat × Bool)} (h : LenC P f p) (hl : ∀ x ∈ l, LenC P x.1 x.2) : ∀ x ∈ (f, p) :: l, LenC P x.1 x.2 := fun x hx => by
 rcases List.mem_cons.1 hx with rfl | hm
 ·exact h
 ·exact hl x hm
theorem rpOf_mem : ∀ {l : List (Nat × Rp)} {f : Nat} {p : Rp}, rpOf l f = some p → (f, p) ∈ l
 | [], _, _, h => by cases h
 | x :: l, f, p, h => by
  simp only [rpOf] at h
  cases hb : Nat.beq x.1 f with
  | true =>
   rw [hb] at h
   simp only [cond_true, Option.some.injEq] at h
   rw [← beq_out hb, ← h]
   exact List.mem_cons_self
  | false => rw [hb] at h; exact List.mem_cons_of_mem _ (rpOf_mem h)
theorem lcOf_mem : ∀ {l : List (Nat × Bool)} {f : Nat} {p : Bool}, lcOf l f = some p → (f, p) ∈ l
 | [], _, _, h => by cases h
 | x :: l, f, p, h => by
  simp only [lcOf] at h
  cases hb : Nat.beq x.1 f with
  | true =>
   rw [hb] at h
   simp only [cond_true, Option.some.injEq] at h
   rw [← beq_out hb, ← h]
   exact List.mem_cons_self
  | false => rw [hb] at h; exact List.mem_cons_of_mem _ (lcOf_mem h)
def krFns : List (Nat × Rp) :=
 (146, .bool) ::
 (102, .i16) ::
 (104, .i32) ::
 (114, .str) ::
 (113, .cstr) ::
 (125, .nstr) ::
 (123, .cnstr) ::
 (134, .uuid) ::
 []
def krLens : List (Nat × Bool) :=
 (107, false) ::
 (106, true) ::
 []
theorem krFns_ok : ∀ x ∈ krFns, RdC Tryz.prog x.1 x.2 :=
 allRd_cons rd_bool <|
 allRd_cons rd_Int16 <|
 allRd_cons rd_Int32 <|
 allRd_cons rd_String <|
 allRd_cons rd_CompactString <|
 allRd_cons rd_NullableString <|
 allRd_cons rd_CompactNullableString <|
 allRd_cons rd_Uuid <|
 allRd_nil
theorem krLens_ok : ∀ x ∈ krLens, LenC Tryz.prog x.1 x.2 :=
 allLen_cons len_ArrayLen <|
 allLen_cons len_CompactArrayLen <|
 allLen_nil
def kr : Kr where
 fns := krFns
 lens := krLens
 ok := 108
 comp := 109
 tags := 115
 rty := 154
theorem kr_ok (ev : Value) : KrOk Tryz.prog kr 1 ev where
 rd := fun f p h _ => krFns_ok _ (rpOf_mem h)
 len := fun f c h _ => krLens_ok _ (lcOf_mem h)
 tags := fun _ w rb sb lo st hr h1 h2 h3 h4 => fn_tags w rb sb lo st hr h1 h2 h3 h4
 ok := fun _ w rb sb st hr => fn_ok w rb sb st hr
 comp := fun _ w rb sb st hr hg => fn_complete w rb sb st ev hr hg
theorem kr_ty : KrTy Tryz.prog kr where
 built := fun a n c => by kernel_rfl
 zero := fun w => by kernel_rfl
 size := by kernel_rfl
end Go.Proofs.YtlmnaffhadeolaaGreatDoor.Rdk

namespace Go.Proofs.YtlmnaffhadeolaaGreatDoor
open Go Go.RowKit
def fldCells (f : Fld) : List Value := [.int .i64 f.kind, .int .i64 f.fr, .int .i64 f.upto, .int .i64 f.nul, .int .i64 f.tag, .int .i64 f.df, .int .i64 f.of, .slice none 0 0]
theorem rep_fld0 (ok : Nat → Prop) (w : World) : ∀ (f : Fld), f.sub.isEmpty = true → Rep ok w (fldD f) (fldCells f)
 | .mk a b c d e f g sub, h => by
  have : sub = [] := by cases sub with | nil => rfl | cons _ _ => simp [Fld.sub] at h
  subst this
  simp only [fldD, fldDs, Rep, Reps]
  exact ⟨[_], _, rfl, rfl, [_], _, rfl, rfl, [_], _, rfl, rfl, [_], _, rfl, rfl, [_], _, rfl, rfl, [_], _, rfl, rfl, [_], _, rfl, rfl, [_], _, rfl, ⟨none, 0, rfl, by simp, .inl (by simp)⟩, rfl⟩
def Frs (lo hi : Nat) : Nat → Prop := fun b => lo ≤ b ∧ b < hi
theorem rep_fr {lo : Nat} {w w' : World} {d : D} {cs : List Value} {lo' : Nat} (h : Rep (Frs lo w.heap.size) w d cs) (hb : Below w.heap.size w w') (hl : lo' ≤ lo) : Rep (Frs lo' w'.heap.size) w' d cs :=
 Rep.mono (fun b k => ⟨⟨Nat.le_trans hl k.1, Nat.lt_of_lt_of_le k.2 hb.size⟩, hb.block b k.2⟩) _ _ h
theorem rep_frw {lo lo' hi : Nat} {w : World} {d : D} {cs : List Value} (h : Rep (Frs lo hi) w d cs) (hl : lo' ≤ lo) : Rep (Frs lo' hi) w d cs :=
 Rep.mono (fun _ k => ⟨⟨Nat.le_trans hl k.1, k.2⟩, rfl⟩) _ _ h
theorem rep_sqshape {ok : Nat → Prop} {w : World} {v : Value} {ds : List D} (h : Rep ok w (.sq ds) [v]) : ∃ a c, v = .slice a ds.length c := by
 simp only [Rep] at h
 obtain ⟨a, c, e, _⟩ := h
 exact ⟨a, c, by simpa using e⟩
theorem reps_fnil {ok : Nat → Prop} {w : World} : Reps ok w (([] : List Fld).map fldD) ([] : List (List Value)).flatten := by simp [Reps]
theorem reps_fcons {ok : Nat → Prop} {w : World} {f : Fld} {fs : List Fld} {c : List Value} {cs : List (List Value)} (h : Rep ok w (fldD f) c) (hl : Reps ok w (fs.map fldD) cs.flatten) : Reps ok w ((f :: fs).map fldD) (c :: cs).flatten := by
 simp only [List.map_cons, List.flatten_cons, Reps]
 exact ⟨_, _, rfl, h, hl⟩
theorem rep_fldS {ok : Nat → Prop} {w : World} {a b c d e f g : Int} {sub : List Fld} {v : Value} (h : Rep ok w (.sq (sub.map fldD)) [v]) : Rep ok w (fldD (.mk a b c d e f g sub)) [.int .i64 a, .int .i64 b, .int .i64 c, .int .i64 d, .int .i64 e, .int .i64 f, .int .i64 g, v] := by
 have h2 : Rep ok w (.sq (fldDs sub)) [v] := by rw [fldDs_map]; exact h
 simp only [fldD, Rep, Reps] at h2 ⊢
 exact ⟨[_], _, rfl, rfl, [_], _, rfl, rfl, [_], _, rfl, rfl, [_], _, rfl, rfl, [_], _, rfl, rfl, [_], _, rfl, rfl, [_], _, rfl, rfl, [_], _, rfl, h2, rfl⟩
section
variable {P : Program} {ops : Array Oper} {Q : Exit → Act → World → Prop} {N : Nat} {rest : List Oper} {L : Sl} {w : World} {d : Nat} {ty : TypeId} {pos : String} {aft : Array Edge}
theorem wl_ifNeNil {x : Operand} {t u : TypeId} (hx : ev L x = some .nilIface) (ht : (match P.underlying t with | some (.interface _) => true | _ => false) = true) (hd : Nat.blt d N = true) (h : WL rest P ops Q N ((d, .bool false) :: L) w) :
  WL (⟨some d, .binOp .neq t x (.const .nilIface) u, ty, pos, aft, none⟩ :: rest) P ops Q N L w := by
 intro a k
 split at ht
 ·rename_i ms hu
  refine st_of (o := ⟨some d, .binOp .neq t x (.const .nilIface) u, ty, pos, aft, none⟩) (v := .bool false) (w' := w) rfl ?_ (h _ (k.put _ hd))
  simp only [execOp, k.eval hx, eval_const]
  have h : ∀ d : Nat, (Op.equalIn (d + 1) t .nilIface .nilIface).run P w = .ok true w := fun d => by
   simp [Op.equalIn, run_underlying hu]
  simp only [eqGuard, binOp]
  simp [Op.equal, Op.maxDepth, h 9999]
 ·cases ht
end
theorem own_src {w : World} {B u8 : Nat} {d : Value} {s : List UInt8} (h : Own w B u8 d s) (hl : s.length ≤ srcLim) (hx : 0 < B) (hw : 0 < w.heap.size) : ∃ sb, sb < w.heap.size ∧ (sb = 0 ∨ B ≤ sb) ∧ SrcAt w sb d s := by
 obtain ⟨hxl, ⟨rfl, h0⟩ | ⟨g, cap, cur, rfl, hBg, hheap, hle, hcap, hcs, htake⟩⟩ := id h
 ·exact ⟨0, hw, .inl rfl, hl, .inl ⟨rfl, List.length_eq_zero_iff.1 h0, rfl⟩⟩
 ·refine ⟨g, (Array.getElem?_eq_some_iff.1 hheap).1, .inr hBg, hl, .inr ⟨0, cap, rfl, hle, ⟨cur, _, _, hheap, ?_, ?_⟩, by omega⟩⟩
  ·rw [bv_length]; omega
  ·intro i v hv
   rw [Nat.zero_add]
   rw [← htake, List.getElem?_take] at hv
   split at hv
   ·simpa using hv
   ·cases hv
theorem chg_below {S : Nat → Prop} {B : Nat} {w w' : World} (h : Chg S w w') (hS : ∀ j, j < B → ¬ S j) (hB : B ≤ w.heap.size) : Below B w w' := ⟨h.os, h.tape, h.output, h.size, fun k hk => h.block k (by omega) (hS k hk)⟩
theorem be2_ver (n : Nat) (h : n < 32768) : IntKind.i16.wrap (n : Int) = (n : Int) := by
 simp only [IntKind.wrap, IntKind.bits, IntKind.signed]
 simp
 omega
end Go.Proofs.YtlmnaffhadeolaaGreatDoor

namespace Go.Proofs.YtlmnaffhadeolaaGreatDoor
open Go Go.RowKit
section
set_option maxRecDepth 100000
end
end Go.Proofs.YtlmnaffhadeolaaGreatDoor

namespace Go.Proofs.YtlmnaffhadeolaaGreatDoor
open Go Go.RowKit
def PF (f : Fld) (y : Tree) (j : Nat) (v : Value) (w : World) : Prop := match j with
 | 1 => Sq w.heap.size w v ([f].map fldD)
 | 7 => Sq w.heap.size w v ([y].map treeD)
 | 8 => ∃ cs : List Value, v = .agg cs.toArray ∧ Rep (Lo w.heap.size) w (treeD (.mk 0 [] false [y] [])) cs
 | 9 => v = .bool true
 | 10 => v = .bool false
 | _ => True
theorem PF.up {f : Fld} {y : Tree} {j : Nat} {v : Value} {w w' : World} (h : PF f y j v w) (hb : Below w.heap.size w w') : PF f y j v w' := by
 unfold PF at *
 split at h
 ·exact h.below hb hb.size
 ·exact h.below hb hb.size
 ·obtain ⟨cs, rfl, hr⟩ := h; exact ⟨cs, rfl, Rep.below hr hb hb.size⟩
 ·exact h
 ·exact h
 ·trivial
theorem qk_at {Q : Exit → Act → World → Prop} {N : Nat} {L : Sl} {w : World} {a : Act} {e : Exit} (k : Kn N a L) (h : QK e Q N L w) : Q e a w := h a k
section
set_option maxRecDepth 100000
end
end Go.Proofs.YtlmnaffhadeolaaGreatDoor

namespace Go.Proofs.YtlmnaffhadeolaaGreatDoor.Tlk
open Go Go.RowKit
theorem tk_cons {P : Program} {K : Tk} {tg : Bool} (h : TkOk P K tg) {f : Nat} {fs : List Fld} (hf : TlP P f tg fs) : TkOk P ⟨K.tT, K.bool, K.text, K.octs, K.each, K.sorted, K.clos, K.gT, (f, fs) :: K.tells⟩ tg := by
 refine ⟨h.ty, h.bool, h.text, h.octs, fun g gs hg => ?_⟩
 simp only [lkM] at hg
 cases hb : Nat.beq f g with
 | true =>
  rw [hb] at hg
  simp only [cond_true, Option.some.injEq] at hg
  rw [← beq_out hb, ← hg]; exact hf
 | false => rw [hb] at hg; exact h.tells g gs hg
theorem tg_cons {P : Program} {K : Tk} (h : TgOk P K) (f : Nat) (fs : List Fld) : TgOk P ⟨K.tT, K.bool, K.text, K.octs, K.each, K.sorted, K.clos, K.gT, (f, fs) :: K.tells⟩ := ⟨h.each, h.sorted, h.clos⟩
end Go.Proofs.YtlmnaffhadeolaaGreatDoor.Tlk

namespace Go.Proofs.YtlmnaffhadeolaaGreatDoor
open Go Go.RowKit
def DfP (fs : List Fld) (g : Tree) : Prop := ∀ (i : Nat) (h : i < fs.length), fs[i].df ≠ 0 → (att g i).n = number fs[i].kind fs[i].df
def dfNum : List Fld → Bool
 | [] => true
 | f :: fs => (decide (f.df = 0) || (!decide (f.kind = 7) && !decide (f.kind = 8) && !decide (f.kind = 9) && !decide (f.kind = 10) && !decide (f.kind = 11))) && dfNum fs
def setDf (tg : Bool) : List Fld → List D → List D
 | [], ds => ds
 | f :: fs, ds => (if f.df = 0 then ds.take (cntF tg f) else [defV f.kind f.nul f.df]) ++ setDf tg fs (ds.drop (cntF tg f))
def setCs (tg : Bool) : List Fld → List Value → List Value
 | [], cs => cs
 | f :: fs, cs => (if f.df = 0 then cs.take (shF tg f).length else ziV f.kind f.nul f.df) ++ setCs tg fs (cs.drop (shF tg f).length)
theorem lits_reps {ok : Nat → Prop} {w : World} : ∀ (vs : List Value), Reps ok w (litsD vs) vs
 | [] => by simp [litsD, Reps]
 | v :: vs => by
  show Reps ok w (.lit v :: litsD vs) (v :: vs)
  simp only [Reps, Rep]
  exact ⟨[v], vs, rfl, rfl, lits_reps vs⟩
theorem take_app {α : Type} {a b : List α} {n : Nat} (h : a.length = n) : (a ++ b).take n = a ∧ (a ++ b).drop n = b := by
 subst h
 exact ⟨List.take_left, List.drop_left⟩
theorem set_reps {ok : Nat → Prop} {w : World} {tg : Bool} : ∀ {fs : List Fld} {a b : List D} {l : List Tree} {cs : List Value}, noPts fs = true → TellFs tg fs a l → Reps ok w (a ++ b) cs → Reps ok w (setDf tg fs (a ++ b)) (setCs tg fs cs)
 | [], a, b, l, cs, _, _, hr => hr
 | f :: fs, a, b, l, cs, hn, h, hr => by
  simp only [noPts, Bool.and_eq_true] at hn
  simp only [TellFs] at h
  obtain ⟨a1, a2, x, r, rfl, rfl, h1, h2⟩ := h
  rw [List.append_assoc] at hr ⊢
  obtain ⟨c1, c2, rfl, hr1, hr2⟩ := (Reps.app _ _ _).1 hr
  have hl1 : c1.length = (shF tg f).length := by rw [Reps.len _ _ hr1]; exact TellF.wide hn.1 h1
  obtain ⟨e1, e2⟩ := take_app (a := a1) (b := a2 ++ b) (tellF_cnt h1)
  obtain ⟨e3, e4⟩ := take_app (a := c1) (b := c2) hl1
  simp only [setDf, setCs, e1, e2, e3, e4]
  refine (Reps.app _ _ _).2 ⟨_, _, rfl, ?_, set_reps hn.2 h2 hr2⟩
  by_cases hd : f.df = 0
  ·rw [if_pos hd, if_pos hd]; exact hr1
  ·rw [if_neg hd, if_neg hd]; exact imp_ziV _ _ _ _ _ _ (lits_reps _)
theorem set_tell {tg : Bool} : ∀ {fs : List Fld} {a : List D} {l : List Tree}, tabTs fs = true → dfNum fs = true → TellFs tg fs a l → ∃ a', (∀ b, setDf tg fs (a ++ b) = a' ++ b) ∧ (∃ l', TellFs tg fs a' l') ∧
  ∀ l', TellFs tg fs a' l' → l'.length = fs.length ∧ ∀ (i : Nat) (h : i < fs.length) (h' : i < l'.length), fs[i].df ≠ 0 → l'[i].n = number fs[i].kind fs[i].df
 | [], a, l, _, _, h => by
  simp only [TellFs] at h
  refine ⟨[], fun b => by rw [h.1]; rfl, ⟨[], by simp [TellFs]⟩, fun l' hl' => ?_⟩
  simp only [TellFs] at hl'
  rw [hl'.2]
  exact ⟨rfl, fun i h => by simp at h⟩
 | f :: fs, a, l, ht, hd, h => by
  have ht' := ht
  simp only [tabTs, Bool.and_eq_true] at ht
  simp only [dfNum, Bool.and_eq_true, Bool.or_eq_true, Bool.not_eq_true', decide_eq_true_eq, decide_eq_false_iff_not] at hd
  simp only [TellFs] at h
  obtain ⟨a1, a2, x, r, rfl, rfl, h1, h2⟩ := h
  obtain ⟨a', k1, ⟨l', k2⟩, k3⟩ := set_tell ht.2 hd.2 h2
  have hc := tellF_cnt h1
  by_cases hz : f.df = 0
  ·refine ⟨a1 ++ a', fun b => ?_, ⟨x :: l', ?_⟩, fun l2 hl2 => ?_⟩
   ·rw [List.append_assoc]
    obtain ⟨e1, e2⟩ := take_app (a := a1) (b := a2 ++ b) hc
    simp only [setDf, e1, e2, if_pos hz, k1, List.append_assoc]
   ·simp only [TellFs]; exact ⟨_, _, _, _, rfl, rfl, h1, k2⟩
   ·simp only [TellFs] at hl2
    obtain ⟨p, q, y, s, hpq, rfl, g1, g2⟩ := hl2
    obtain ⟨e1, e2⟩ := split_cnt hpq (by rw [hc, tellF_cnt g1])
    subst e2
    obtain ⟨m1, m2⟩ := k3 s g2
    refine ⟨by simp [m1], fun i hi hi' hne => ?_⟩
    cases i with
    | zero => exact absurd hz hne
    | succ i => exact m2 i (by simpa using hi) (by simpa using hi') hne
  ·obtain ⟨⟨⟨⟨n7, n8⟩, n9⟩, n10⟩, n11⟩ := hd.1.resolve_left hz
   cases f with
   | mk kind fr upto nul tag df of sub =>
   simp only [Fld.kind] at n7 n8 n9 n10 n11
   have hF : ∀ T, TellF tg (.mk kind fr upto nul tag df of sub) [defV kind nul df] T ↔ TellV kind nul (defV kind nul df) T := by
    intro T
    rw [TellF_mk]
    simp only [n11, n10, if_false]
    constructor
    ·rintro ⟨d, hd, hv⟩
     simp only [List.cons.injEq, and_true] at hd
     rw [hd]; exact hv
    ·intro hv; exact ⟨_, rfl, hv⟩
   obtain ⟨T0, hT0⟩ := ex_defV kind nul df
   refine ⟨[defV kind nul df] ++ a', fun b => ?_, ⟨T0 :: l', ?_⟩, fun l2 hl2 => ?_⟩
   ·rw [List.append_assoc]
    obtain ⟨e1, e2⟩ := take_app (a := a1) (b := a2 ++ b) hc
    simp only [setDf, e2, if_neg hz, k1, List.append_assoc]
    rfl
   ·simp only [TellFs]; exact ⟨_, _, _, _, rfl, rfl, (hF T0).2 hT0, k2⟩
   ·simp only [TellFs] at hl2
    obtain ⟨p, q, y, s, hpq, rfl, g1, g2⟩ := hl2
    obtain ⟨e1, e2⟩ := split_cnt hpq (by rw [tellF_cnt g1]; simp [cntF, n10, n11])
    subst e1; subst e2
    obtain ⟨m1, m2⟩ := k3 s g2
    refine ⟨by simp [m1], fun i hi hi' hne => ?_⟩
    cases i with
    | zero =>
     have hu := us_defV (tabT_out ht.1) n10 n11 ((hF y).1 g1) fr upto
     simp only [UsF, n8, n7, n9, n11, n10, if_false, or_self] at hu
     exact hu
    | succ i => exact m2 i (by simpa using hi) (by simpa using hi') hne
theorem set_tellP {tg : Bool} {fs : List Fld} {ds : List D} {T : Tree} (ht : tabTs fs = true) (hd : dfNum fs = true) (h : TellP tg fs ds T) : (∃ T', TellP tg fs (setDf tg fs ds) T') ∧ ∀ T', TellP tg fs (setDf tg fs ds) T' → DfP fs T' := by
 obtain ⟨a, u, rfl, _, hu, hs⟩ := h
 obtain ⟨a', k1, ⟨l', k2⟩, k3⟩ := set_tell ht hd hs
 rw [k1]
 refine ⟨⟨.mk 0 [] false l' (if tg then u else []), a', u, rfl, rfl, hu, k2⟩, ?_⟩
 rintro T' ⟨a2, u2, he, _, _, hs2⟩
 obtain ⟨e1, _⟩ := split_cnt he (by rw [tellFs_cnt k2, tellFs_cnt hs2])
 subst e1
 obtain ⟨m1, m2⟩ := k3 T'.l hs2
 intro i hi hne
 have := m2 i hi (by omega) hne
 rw [← this]
 simp [att, List.getD_eq_getElem?_getD, List.getElem?_eq_getElem (show i < T'.l.length by omega)]
theorem set_repsP {ok : Nat → Prop} {w : World} {tg : Bool} {fs : List Fld} {ds : List D} {T : Tree} {cs : List Value} (hn : noPts fs = true) (h : TellP tg fs ds T) (hr : Reps ok w ds cs) : Reps ok w (setDf tg fs ds) (setCs tg fs cs) := by
 obtain ⟨a, u, rfl, _, _, hs⟩ := h
 exact set_reps hn hs hr
end Go.Proofs.YtlmnaffhadeolaaGreatDoor

namespace Go.Proofs.YtlmnaffhadeolaaGreatDoor
open Go Go.RowKit
def DF (f : Fld) (x : Tree) (j : Nat) (v : Value) (w : World) : Prop := match j with
 | 6 => ∃ cs : List Value, v = .agg cs.toArray ∧ Rep (Lo w.heap.size) w (treeD x) cs
 | 7 => v = .int .i64 x.n
 | 12 => v = .int .i64 (number f.kind f.df)
 | 13 => v = .bool false
 | 14 => v = .bool false
 | _ => True
theorem DF.up {f : Fld} {x : Tree} {j : Nat} {v : Value} {w w' : World} (h : DF f x j v w) (hb : Below w.heap.size w w') : DF f x j v w' := by
 unfold DF at *
 split at h
 ·obtain ⟨cs, rfl, hr⟩ := h; exact ⟨cs, rfl, Rep.below hr hb hb.size⟩
 ·exact h
 ·exact h
 ·exact h
 ·exact h
 ·trivial
section
set_option maxRecDepth 100000
theorem po_tree0 : partOff Tryz.prog 26 0 = some 0 := by kernel_rfl
set_option maxHeartbeats 4000000 in
theorem fn_defaults (fs : List Fld) (hlen : fs.length ≤ 1000) (g : Tree) (B : Nat) (w : World) (fv : Value) (gs : List Value) (hB : B ≤ w.heap.size) (hf : Sq B w fv (fs.map fldD)) (hg : Rep (Lo B) w (treeD g) gs) (hdf : DfP fs g) :
  Fn 27 [fv, .agg gs.toArray] w fun v _ => v = .bool true := by
 obtain ⟨fa, fc, rfl, _⟩ := hf.shape
 obtain ⟨gsv, glv, guv, rfl, _, _, _⟩ := tree_cells hg
 simp only [List.length_map] at *
 refine enter Tryz.func27 rfl Tryz.ntmps27 rfl ?_
 repeat (with_reducible first|apply wc_seq|apply wc_region)
 refine wl_box1 rfl rfl rfl (fun w1 hb1 hg1 hs1 => ?_)
 have hw1 : Below w.heap.size w w1 := below_of hg1 (Nat.le_refl _) (by simp)
 repeat first|(with_reducible first|apply wc_seq|apply wc_region|apply wl_nil|apply qk_thn|apply wc_block)|((with_reducible apply ws);exact rfl;exact rfl)
 refine wc_loop (α := Nat) (fun i => [(9, .int .i64 (i : Int)), (8, .int .i64 (fs.length : Int)), (7, .slice fa fs.length fc), (3, .pointer (some ⟨w.heap.size, 0, none⟩))]) (fun i w' => i ≤ fs.length ∧ Below w1.heap.size w1 w') (fun i => fs.length - i) 0 ⟨rfl, rfl, rfl, rfl, trivial⟩ ⟨Nat.zero_le _, Below.refl _ _⟩ ?_
 rintro i w2 ⟨hi, hw2⟩
 have hw02 : Below w.heap.size w w2 := hw1.trans (hw2.mono (by omega))
 have hs12 := hw2.size
 repeat first|(with_reducible first|apply wc_seq|apply wc_region|apply wl_nil|apply qk_thn)|((with_reducible apply ws);exact rfl;exact rfl)
 by_cases hlt : i < fs.length
 ·refine wc_yes rfl (by simpa using hlt) ?_
  obtain ⟨b, off, c', cs, hv, _, hcs, hcl, hr⟩ := (hf.below (hw02.mono hB) (Nat.le_refl _)).get (sz := 8) (i := i) (by intro d hd; obtain ⟨x, _, rfl⟩ := List.mem_map.1 hd; exact fldD_width x) (by simpa using hlt)
  simp only [Value.slice.injEq, List.length_map] at hv
  obtain ⟨rfl, _, rfl⟩ := hv
  simp only [List.getElem_map] at hr
  obtain ⟨hone, _⟩ := fld_one hr
  have hdi := hdf i hlt
  generalize hff : fs[i] = f at *
  obtain ⟨sv, rfl, hsub⟩ := fld_cells hr
  repeat first|(with_reducible first|apply wc_seq|apply wc_region|apply qk_thn|apply wc_block|apply wc_skip)|((with_reducible apply ws);exact rfl;exact rfl)
  refine wl_indexAddr rfl rfl es_flds rfl hlt ?_
  refine wl_loadAgg (cs := [.int .i64 f.kind, .int .i64 f.fr, .int .i64 f.upto, .int .i64 f.nul, .int .i64 f.tag, .int .i64 f.df, .int .i64 f.of, sv]) rfl ta_fld rfl (fun j v e => hcs.cell e) ?_
  refine wl_alloc zv_fld rfl rfl (fun w4 hbx4 hg4 hs4 => ?_)
  repeat ((with_reducible apply ws);exact rfl;exact rfl)
  refine wl_storeBAgg (vs := [.int .i64 f.kind, .int .i64 f.fr, .int .i64 f.upto, .int .i64 f.nul, .int .i64 f.tag, .int .i64 f.df, .int .i64 f.of, sv]) rfl rfl rfl tz_fld hone hbx4 rfl (fun w5 hbx5 hg5 hs5 => ?_)
  have hw25 : Below w2.heap.size w2 w5 := (below_of hg4 (Nat.le_refl _) (by simp)).trans (below_of hg5 (by omega) (by intro k hk; simp at hk; omega))
  have hw05 : Below w.heap.size w w5 := hw02.trans (hw25.mono (by omega))
  have hw15 : Below w1.heap.size w1 w5 := hw2.trans (hw25.mono (by omega))
  repeat (with_reducible first|apply wc_seq|apply wl_nil|apply qk_thn)
  by_cases hd0 : f.df = 0
  ·refine wc_par [(0, .pointer (some ⟨w2.heap.size, 0 + 5, none⟩)), (1, .int .i64 f.df), (2, .bool false), (3, .bool false), (4, undef), (5, undef), (6, undef), (7, undef), (8, undef), (9, undef), (10, undef), (11, undef), (12, undef), (13, undef), (14, .bool false)] []
    (fun _ w' => Below w5.heap.size w5 w') mixed rfl rfl rfl rfl rfl (by show ([0,1,2,3,4,5,6,7,8,9,10,11,12,13,14] : List Nat).Nodup; decide) rfl rfl (by decide) rfl rfl rfl rfl (Below.refl _ w5).drew ?_ trivial ?_
   ·intro p hp vals w' hC a k
    simp only [List.mem_cons, List.not_mem_nil, or_false] at hp
    rcases hp with rfl | rfl | rfl | rfl | rfl | rfl | rfl | rfl | rfl | rfl | rfl | rfl | rfl | rfl | rfl
    ·exact gv rfl rfl (rn_fieldAddr k rfl fo_fld5)
    ·exact gv rfl rfl (rn_load k rfl to_i64 ((hbx5.below hC (by omega)).cell0 (i := 5) rfl))
    ·exact gv rfl rfl ((rn_neq k rfl rfl).trans (by rw [hd0]; rfl))
    ·exact gv rfl rfl (rn_move k rfl)
    iterate 10 (exact gv_no rfl rfl rfl k rfl rfl)
    ·exact gv rfl rfl (rn_pick k rfl rfl)
   ·rintro vals w' hvl hb'
    refine qk_thn ?_
    refine wc_no rfl rfl ?_
    repeat (with_reducible first|apply wc_region|apply qk_thn|apply wc_skip|apply qk_in)
    refine wl_add rfl rfl rfl (r := ((i + 1 : Nat) : Int)) (by rw [IntKind.wrap_i64]; omega) ?_
    repeat first|(with_reducible apply wl_nil)|((with_reducible apply ws);exact rfl;exact rfl)
    exact qk_round (i + 1) ⟨rfl, rfl, rfl, rfl, trivial⟩ ⟨by omega, hw15.trans (hb'.mono (by omega))⟩ (by omega)
  ·have hdi := hdi hd0
   refine wc_po [(0, .pointer (some ⟨w2.heap.size, 0 + 5, none⟩)), (1, .int .i64 f.df), (2, .bool true), (3, .bool true), (4, .agg ([.int .i64 g.n, gsv, .bool g.nul, glv, guv] : List Value).toArray), (5, .int .i64 (i : Int)), (8, .pointer (some ⟨w2.heap.size, 0 + 0, none⟩)), (9, .int .i64 f.kind), (10, .pointer (some ⟨w2.heap.size, 0 + 5, none⟩)), (11, .int .i64 f.df)] [6, 7, 12, 13, 14]
    (fun dn w' => Below w5.heap.size w5 w' ∧ ∀ j v, (j, v) ∈ dn → DF f (att g i) j v w')
    mixed rfl rfl rfl rfl rfl rfl (by show ([0,1,2,3,4,5,8,9,10,11] : List Nat).Nodup; decide) rfl rfl rfl ⟨(Below.refl _ w5).drew, fun j v h => by cases h⟩ ?_ ?_ ?_
   ·intro p hp dn w' hC a k
    have hbx := hbx5.below hC.1 (by omega)
    simp only [List.mem_cons, List.not_mem_nil, or_false] at hp
    rcases hp with rfl | rfl | rfl | rfl | rfl | rfl | rfl | rfl | rfl | rfl
    ·exact gv rfl rfl (rn_fieldAddr k rfl fo_fld5)
    ·exact gv rfl rfl (rn_load k rfl to_i64 (hbx.cell0 (i := 5) rfl))
    ·exact gv rfl rfl ((rn_neq k rfl rfl).trans (by rw [show (f.df != 0) = true from by simpa using hd0]))
    ·exact gv rfl rfl (rn_move k rfl)
    ·exact gv_yes rfl rfl rfl k rfl rfl (rn_loadBAgg k rfl ta_tree (hb1.below (hw15.trans (hC.1.mono (by omega))) (by omega)))
    ·exact gv_yes rfl rfl rfl k rfl rfl (rn_move k rfl)
    ·exact gv_yes rfl rfl rfl k rfl rfl (rn_fieldAddr k rfl fo_fld0)
    ·exact gv_yes rfl rfl rfl k rfl rfl (rn_load k rfl to_int (hbx.cell0 (i := 0) rfl))
    ·exact gv_yes rfl rfl rfl k rfl rfl (rn_fieldAddr k rfl fo_fld5)
    ·exact gv_yes rfl rfl rfl k rfl rfl (rn_load k rfl to_i64 (hbx.cell0 (i := 5) rfl))
   ·rintro c hc dn w' ⟨hb', hdn⟩ hpr a k hgt
    have hs5' := hb'.size
    have next : ∀ {v : Value} {w'' : World} {c : Nat}, Below w'.heap.size w' w'' → DF f (att g i) c v w'' → Below w5.heap.size w5 w'' ∧ ∀ j u, (j, u) ∈ (c, v) :: dn → DF f (att g i) j u w'' := by
     intro v w'' c hb'' hp
     refine ⟨hb'.trans (hb''.mono hs5'), fun j u hj => ?_⟩
     rcases List.mem_cons.1 hj with h | h
     ·cases h; exact hp
     ·exact (hdn j u h).up hb''
    simp only [List.mem_cons, List.not_mem_nil, or_false] at hc
    rcases hc with rfl | rfl | rfl | rfl | rfl
    ·refine ⟨_, rfl, does_call k rfl (by kernel_rfl) ((fn_at g i B w' (by omega) _ (Rep.below hg ((hw05.trans (hb'.mono hw05.size)).mono hB) (Nat.le_refl _))).mono ?_)⟩
     rintro e w'' ⟨v, rfl, hb'', xs, rfl, hxr⟩
     have hs'' := hb''.size
     exact ⟨_, rfl, next hb'' ⟨xs, rfl, hxr.up (fun r hr => by simp only [Lo] at *; omega) (fun _ _ => rfl)⟩⟩
    ·obtain ⟨v6, h6⟩ := hpr 6 (by decide) rfl
     obtain ⟨cs6, rfl, hp6⟩ : ∃ cs : List Value, v6 = .agg cs.toArray ∧ Rep (Lo w'.heap.size) w' (treeD (att g i)) cs := hdn 6 v6 h6
     obtain ⟨s1, s2, s3, rfl, _, _, _⟩ := tree_cells hp6
     have he := hgt 6 _ 20 h6 rfl
     exact ⟨_, rfl, does_of (ro_field rfl he po_tree0 rfl) (next (Below.refl _ _) rfl)⟩
    ·refine ⟨_, rfl, does_call k rfl (by kernel_rfl) ((fn_number f.kind f.df w').mono ?_)⟩
     rintro e w'' ⟨v, rfl, hb'', rfl, rfl⟩
     exact ⟨_, rfl, next (Below.refl _ _) rfl⟩
    ·obtain ⟨v7, h7⟩ := hpr 7 (by decide) rfl
     obtain ⟨v12, h12⟩ := hpr 12 (by decide) rfl
     have hp7 : v7 = .int .i64 (att g i).n := hdn 7 v7 h7
     have hp12 : v12 = .int .i64 (number f.kind f.df) := hdn 12 v12 h12
     subst hp7
     subst hp12
     have k2 := (k.with (hgt 7 _ 21 h7 rfl)).with (hgt 12 _ 26 h12 rfl)
     refine ⟨_, rfl, does_of (rn_neq k2 rfl rfl) (next (Below.refl _ _) ?_)⟩
     show Value.bool _ = Value.bool false
     rw [hdi]; simp
    ·obtain ⟨v13, h13⟩ := hpr 13 (by decide) rfl
     have hp13 : v13 = .bool false := hdn 13 v13 h13
     subst hp13
     have k2 := k.with (hgt 13 _ 27 h13 rfl)
     exact ⟨_, rfl, does_pick (b := true) (v := .bool false) k2 rfl rfl (next (Below.refl _ _) rfl)⟩
   ·rintro dn w' ⟨hb', hdn⟩ hall a k hgt
    obtain ⟨v14, h14⟩ := hall 14 (by decide)
    have hp14 : v14 = .bool false := hdn 14 v14 h14
    subst hp14
    have k14 := k.with (hgt 14 _ 28 h14 rfl)
    refine qk_at k14 (qk_thn ?_)
    refine wc_no rfl rfl ?_
    repeat (with_reducible first|apply wc_region|apply qk_thn|apply wc_skip|apply qk_in)
    refine wl_add rfl rfl rfl (r := ((i + 1 : Nat) : Int)) (by rw [IntKind.wrap_i64]; omega) ?_
    repeat first|(with_reducible apply wl_nil)|((with_reducible apply ws);exact rfl;exact rfl)
    exact qk_round (i + 1) ⟨rfl, rfl, rfl, rfl, trivial⟩ ⟨by omega, hw15.trans (hb'.mono (by omega))⟩ (by omega)
 ·refine wc_no rfl (by simpa using hlt) ?_
  repeat first|(with_reducible first|apply wc_seq|apply wc_region|apply wl_nil|apply qk_thn|apply wc_ret|apply wc_exit|apply qk_thn_exit|apply qk_in_exit|apply qk_round_exit)|((with_reducible apply ws);exact rfl;exact rfl)
  exact qk_ret1 rfl rfl ⟨_, rfl, hw02, rfl⟩
end
end Go.Proofs.YtlmnaffhadeolaaGreatDoor

namespace Go.Proofs.YtlmnaffhadeolaaGreatDoor.BMetadataResponse
open Go Go.RowKit
def sMetadataResponseBroker : List Fld := [.mk 3 0 (-1) (-1) (-1) 0 0 [], .mk 8 0 (-1) (-1) (-1) 0 0 [], .mk 3 0 (-1) (-1) (-1) 0 0 [], .mk 8 1 (-1) 1 (-1) 0 0 []]
def sMetadataResponseTopicPartition : List Fld := [.mk 2 0 (-1) (-1) (-1) 0 0 [], .mk 3 0 (-1) (-1) (-1) 0 0 [], .mk 3 0 (-1) (-1) (-1) 0 0 [], .mk 3 7 (-1) (-1) (-1) (-1) 0 [], .mk 11 0 (-1) (-1) (-1) 0 3 [], .mk 11 0 (-1) (-1) (-1) 0 3 [], .mk 11 5 (-1) (-1) (-1) 0 3 []]
def sMetadataResponseTopic : List Fld := [.mk 2 0 (-1) (-1) (-1) 0 0 [], .mk 8 0 (-1) 12 (-1) 0 0 [], .mk 7 10 (-1) (-1) (-1) 0 0 [], .mk 0 1 (-1) (-1) (-1) 0 0 [], .mk 11 0 (-1) (-1) (-1) 0 10 sMetadataResponseTopicPartition, .mk 3 8 (-1) (-1) (-1) (-2147483648) 0 []]
def m : Msg := ⟨[.mk 3 3 (-1) (-1) (-1) 0 0 [], .mk 11 0 (-1) (-1) (-1) 0 10 sMetadataResponseBroker, .mk 8 2 (-1) 2 (-1) 0 0 [], .mk 3 1 (-1) (-1) (-1) (-1) 0 [], .mk 11 0 (-1) (-1) (-1) 0 10 sMetadataResponseTopic, .mk 3 8 10 (-1) (-1) (-2147483648) 0 [], .mk 2 13 (-1) (-1) (-1) 0 0 []], 9⟩
theorem m_ok : fsok m.fields = true := by decide
def most : Nat := 13
def tbl : Tbl := ⟨[(30, 0, 0), (30, 1, 1), (142, 0, 0)], [22]⟩
theorem tbl_ok : tbl.ok Tryz.prog = true := by kernel_rfl
theorem ws {ops : Array Oper} {Q : Exit → Act → World → Prop} {N : Nat} {rest : List Oper} {L : Sl} {w : World} {d : Nat} {ty : TypeId} {pos : String} {aft : Array Edge} {o : Op} {v : Value}
  (hs : stepOp tbl L o = some v) (hd : Nat.blt d N = true) (h : WL rest Tryz.prog ops Q N ((d, v) :: L) w) : WL (⟨some d, o, ty, pos, aft, none⟩ :: rest) Tryz.prog ops Q N L w := wl_step tbl tbl_ok hs hd h
theorem zv_msg (w : World) : (zeroValue 30).run Tryz.prog w = .ok (.agg #[.slice none 0 0, .int .i64 0]) w := by kernel_rfl
theorem rt_flds : rowTy Tryz.prog 28 55 8 = true := by kernel_rfl
theorem to_i16 : tyOne Tryz.prog 57 = true := by kernel_rfl
section
set_option maxRecDepth 100000
set_option maxHeartbeats 4000000
theorem fn_tsMetadataResponseBroker (w : World) : Fn 55 [] w fun v w' => Rep (Frs w.heap.size w'.heap.size) w' (.sq (sMetadataResponseBroker.map fldD)) [v] := by
 refine enter Tryz.func55 rfl Tryz.ntmps55 rfl ?_
 repeat first|(with_reducible first|apply wc_seq|apply wc_region|apply wl_nil|apply qk_thn)|((with_reducible apply ws);exact rfl;exact rfl)
 have hW : Below w.heap.size w w := ⟨rfl, rfl, rfl, Nat.le_refl _, fun _ _ => rfl⟩
 refine wl_build rfl (cs := [.int .i64 3, .int .i64 0, .int .i64 (-1), .int .i64 (-1), .int .i64 (-1), .int .i64 0, .int .i64 0, .slice none 0 0]) (by kernel_rfl) rfl ?_
 refine wl_build rfl (cs := [.int .i64 8, .int .i64 0, .int .i64 (-1), .int .i64 (-1), .int .i64 (-1), .int .i64 0, .int .i64 0, .slice none 0 0]) (by kernel_rfl) rfl ?_
 refine wl_build rfl (cs := [.int .i64 3, .int .i64 0, .int .i64 (-1), .int .i64 (-1), .int .i64 (-1), .int .i64 0, .int .i64 0, .slice none 0 0]) (by kernel_rfl) rfl ?_
 refine wl_build rfl (cs := [.int .i64 8, .int .i64 1, .int .i64 (-1), .int .i64 1, .int .i64 (-1), .int .i64 0, .int .i64 0, .slice none 0 0]) (by kernel_rfl) rfl ?_
 refine wl_sliceN [[.int .i64 3, .int .i64 0, .int .i64 (-1), .int .i64 (-1), .int .i64 (-1), .int .i64 0, .int .i64 0, .slice none 0 0], [.int .i64 8, .int .i64 0, .int .i64 (-1), .int .i64 (-1), .int .i64 (-1), .int .i64 0, .int .i64 0, .slice none 0 0], [.int .i64 3, .int .i64 0, .int .i64 (-1), .int .i64 (-1), .int .i64 (-1), .int .i64 0, .int .i64 0, .slice none 0 0], [.int .i64 8, .int .i64 1, .int .i64 (-1), .int .i64 1, .int .i64 (-1), .int .i64 0, .int .i64 0, .slice none 0 0]] rt_flds rfl rfl (by simp) rfl rfl rfl (fun w2 hbS hgS hsS => ?_)
 have hs_2 := below_of hgS (Nat.le_refl _) (by simp)
 have hz := hW.size
 replace hW := hW.trans (hs_2.mono hW.size)
 have hfin : Rep (Frs w.heap.size w2.heap.size) w2 (.sq (sMetadataResponseBroker.map fldD)) [.slice (some ⟨w.heap.size, 0, none⟩) 4 4] := by
  simp only [Rep]
  exact ⟨_, 4, rfl, Nat.le_refl _, .inr ⟨w.heap.size, 0, _, rfl, ⟨hz, hbS.lt⟩, hbS.cells, (reps_fcons (rep_fld0 _ _ (.mk 3 0 (-1) (-1) (-1) 0 0 []) rfl) (reps_fcons (rep_fld0 _ _ (.mk 8 0 (-1) (-1) (-1) 0 0 []) rfl) (reps_fcons (rep_fld0 _ _ (.mk 3 0 (-1) (-1) (-1) 0 0 []) rfl) (reps_fcons (rep_fld0 _ _ (.mk 8 1 (-1) 1 (-1) 0 0 []) rfl) reps_fnil))))⟩⟩
 repeat first|(with_reducible first|apply wl_nil|apply qk_thn|apply wc_ret)|((with_reducible apply ws);exact rfl;exact rfl)
 exact qk_ret1 rfl rfl ⟨_, rfl, hW, hfin⟩
theorem fn_tsMetadataResponseTopicPartition (w : World) : Fn 97 [] w fun v w' => Rep (Frs w.heap.size w'.heap.size) w' (.sq (sMetadataResponseTopicPartition.map fldD)) [v] := by
 refine enter Tryz.func97 rfl Tryz.ntmps97 rfl ?_
 repeat first|(with_reducible first|apply wc_seq|apply wc_region|apply wl_nil|apply qk_thn)|((with_reducible apply ws);exact rfl;exact rfl)
 have hW : Below w.heap.size w w := ⟨rfl, rfl, rfl, Nat.le_refl _, fun _ _ => rfl⟩
 refine wl_build rfl (cs := [.int .i64 2, .int .i64 0, .int .i64 (-1), .int .i64 (-1), .int .i64 (-1), .int .i64 0, .int .i64 0, .slice none 0 0]) (by kernel_rfl) rfl ?_
 refine wl_build rfl (cs := [.int .i64 3, .int .i64 0, .int .i64 (-1), .int .i64 (-1), .int .i64 (-1), .int .i64 0, .int .i64 0, .slice none 0 0]) (by kernel_rfl) rfl ?_
 refine wl_build rfl (cs := [.int .i64 3, .int .i64 0, .int .i64 (-1), .int .i64 (-1), .int .i64 (-1), .int .i64 0, .int .i64 0, .slice none 0 0]) (by kernel_rfl) rfl ?_
 refine wl_build rfl (cs := [.int .i64 3, .int .i64 7, .int .i64 (-1), .int .i64 (-1), .int .i64 (-1), .int .i64 (-1), .int .i64 0, .slice none 0 0]) (by kernel_rfl) rfl ?_
 refine wl_build rfl (cs := [.int .i64 11, .int .i64 0, .int .i64 (-1), .int .i64 (-1), .int .i64 (-1), .int .i64 0, .int .i64 3, .slice none 0 0]) (by kernel_rfl) rfl ?_
 refine wl_build rfl (cs := [.int .i64 11, .int .i64 0, .int .i64 (-1), .int .i64 (-1), .int .i64 (-1), .int .i64 0, .int .i64 3, .slice none 0 0]) (by kernel_rfl) rfl ?_
 refine wl_build rfl (cs := [.int .i64 11, .int .i64 5, .int .i64 (-1), .int .i64 (-1), .int .i64 (-1), .int .i64 0, .int .i64 3, .slice none 0 0]) (by kernel_rfl) rfl ?_
 refine wl_sliceN [[.int .i64 2, .int .i64 0, .int .i64 (-1), .int .i64 (-1), .int .i64 (-1), .int .i64 0, .int .i64 0, .slice none 0 0], [.int .i64 3, .int .i64 0, .int .i64 (-1), .int .i64 (-1), .int .i64 (-1), .int .i64 0, .int .i64 0, .slice none 0 0], [.int .i64 3, .int .i64 0, .int .i64 (-1), .int .i64 (-1), .int .i64 (-1), .int .i64 0, .int .i64 0, .slice none 0 0], [.int .i64 3, .int .i64 7, .int .i64 (-1), .int .i64 (-1), .int .i64 (-1), .int .i64 (-1), .int .i64 0, .slice none 0 0], [.int .i64 11, .int .i64 0, .int .i64 (-1), .int .i64 (-1), .int .i64 (-1), .int .i64 0, .int .i64 3, .slice none 0 0], [.int .i64 11, .int .i64 0, .int .i64 (-1), .int .i64 (-1), .int .i64 (-1), .int .i64 0, .int .i64 3, .slice none 0 0], [.int .i64 11, .int .i64 5, .int .i64 (-1), .int .i64 (-1), .int .i64 (-1), .int .i64 0, .int .i64 3, .slice none 0 0]] rt_flds rfl rfl (by simp) rfl rfl rfl (fun w2 hbS hgS hsS => ?_)
 have hs_2 := below_of hgS (Nat.le_refl _) (by simp)
 have hz := hW.size
 replace hW := hW.trans (hs_2.mono hW.size)
 have hfin : Rep (Frs w.heap.size w2.heap.size) w2 (.sq (sMetadataResponseTopicPartition.map fldD)) [.slice (some ⟨w.heap.size, 0, none⟩) 7 7] := by
  simp only [Rep]
  exact ⟨_, 7, rfl, Nat.le_refl _, .inr ⟨w.heap.size, 0, _, rfl, ⟨hz, hbS.lt⟩, hbS.cells, (reps_fcons (rep_fld0 _ _ (.mk 2 0 (-1) (-1) (-1) 0 0 []) rfl) (reps_fcons (rep_fld0 _ _ (.mk 3 0 (-1) (-1) (-1) 0 0 []) rfl) (reps_fcons (rep_fld0 _ _ (.mk 3 0 (-1) (-1) (-1) 0 0 []) rfl) (reps_fcons (rep_fld0 _ _ (.mk 3 7 (-1) (-1) (-1) (-1) 0 []) rfl) (reps_fcons (rep_fld0 _ _ (.mk 11 0 (-1) (-1) (-1) 0 3 []) rfl) (reps_fcons (rep_fld0 _ _ (.mk 11 0 (-1) (-1) (-1) 0 3 []) rfl) (reps_fcons (rep_fld0 _ _ (.mk 11 5 (-1) (-1) (-1) 0 3 []) rfl) reps_fnil)))))))⟩⟩
 repeat first|(with_reducible first|apply wl_nil|apply qk_thn|apply wc_ret)|((with_reducible apply ws);exact rfl;exact rfl)
 exact qk_ret1 rfl rfl ⟨_, rfl, hW, hfin⟩
theorem fn_tsMetadataResponseTopic (w : World) : Fn 56 [] w fun v w' => Rep (Frs w.heap.size w'.heap.size) w' (.sq (sMetadataResponseTopic.map fldD)) [v] := by
 refine enter Tryz.func56 rfl Tryz.ntmps56 rfl ?_
 repeat first|(with_reducible first|apply wc_seq|apply wc_region|apply wl_nil|apply qk_thn)|((with_reducible apply ws);exact rfl;exact rfl)
 have hW : Below w.heap.size w w := ⟨rfl, rfl, rfl, Nat.le_refl _, fun _ _ => rfl⟩
 refine wl_build rfl (cs := [.int .i64 2, .int .i64 0, .int .i64 (-1), .int .i64 (-1), .int .i64 (-1), .int .i64 0, .int .i64 0, .slice none 0 0]) (by kernel_rfl) rfl ?_
 refine wl_build rfl (cs := [.int .i64 8, .int .i64 0, .int .i64 (-1), .int .i64 12, .int .i64 (-1), .int .i64 0, .int .i64 0, .slice none 0 0]) (by kernel_rfl) rfl ?_
 refine wl_build rfl (cs := [.int .i64 7, .int .i64 10, .int .i64 (-1), .int .i64 (-1), .int .i64 (-1), .int .i64 0, .int .i64 0, .slice none 0 0]) (by kernel_rfl) rfl ?_
 refine wl_build rfl (cs := [.int .i64 0, .int .i64 1, .int .i64 (-1), .int .i64 (-1), .int .i64 (-1), .int .i64 0, .int .i64 0, .slice none 0 0]) (by kernel_rfl) rfl ?_
 refine wl_call rfl (by kernel_rfl) rfl ((fn_tsMetadataResponseTopicPartition w).mono ?_)
 rintro e w2 ⟨sv, rfl, hs_2, hsq4⟩
 obtain ⟨a4, c4, rfl⟩ := rep_sqshape hsq4
 refine ⟨_, rfl, ?_⟩
 replace hsq4 := rep_frw hsq4 hW.size
 replace hW := hW.trans (hs_2.mono hW.size)
 refine wl_build rfl (cs := [.int .i64 11, .int .i64 0, .int .i64 (-1), .int .i64 (-1), .int .i64 (-1), .int .i64 0, .int .i64 10, .slice a4 (sMetadataResponseTopicPartition.map fldD).length c4]) (by kernel_rfl) rfl ?_
 refine wl_build rfl (cs := [.int .i64 3, .int .i64 8, .int .i64 (-1), .int .i64 (-1), .int .i64 (-1), .int .i64 (-2147483648), .int .i64 0, .slice none 0 0]) (by kernel_rfl) rfl ?_
 refine wl_sliceN [[.int .i64 2, .int .i64 0, .int .i64 (-1), .int .i64 (-1), .int .i64 (-1), .int .i64 0, .int .i64 0, .slice none 0 0], [.int .i64 8, .int .i64 0, .int .i64 (-1), .int .i64 12, .int .i64 (-1), .int .i64 0, .int .i64 0, .slice none 0 0], [.int .i64 7, .int .i64 10, .int .i64 (-1), .int .i64 (-1), .int .i64 (-1), .int .i64 0, .int .i64 0, .slice none 0 0], [.int .i64 0, .int .i64 1, .int .i64 (-1), .int .i64 (-1), .int .i64 (-1), .int .i64 0, .int .i64 0, .slice none 0 0], [.int .i64 11, .int .i64 0, .int .i64 (-1), .int .i64 (-1), .int .i64 (-1), .int .i64 0, .int .i64 10, .slice a4 (sMetadataResponseTopicPartition.map fldD).length c4], [.int .i64 3, .int .i64 8, .int .i64 (-1), .int .i64 (-1), .int .i64 (-1), .int .i64 (-2147483648), .int .i64 0, .slice none 0 0]] rt_flds rfl rfl (by simp) rfl rfl rfl (fun w3 hbS hgS hsS => ?_)
 have hs_3 := below_of hgS (Nat.le_refl _) (by simp)
 have hz := hW.size
 replace hsq4 := rep_fr hsq4 hs_3 (Nat.le_refl _)
 replace hW := hW.trans (hs_3.mono hW.size)
 have hfin : Rep (Frs w.heap.size w3.heap.size) w3 (.sq (sMetadataResponseTopic.map fldD)) [.slice (some ⟨w2.heap.size, 0, none⟩) 6 6] := by
  simp only [Rep]
  exact ⟨_, 6, rfl, Nat.le_refl _, .inr ⟨w2.heap.size, 0, _, rfl, ⟨hz, hbS.lt⟩, hbS.cells, (reps_fcons (rep_fld0 _ _ (.mk 2 0 (-1) (-1) (-1) 0 0 []) rfl) (reps_fcons (rep_fld0 _ _ (.mk 8 0 (-1) 12 (-1) 0 0 []) rfl) (reps_fcons (rep_fld0 _ _ (.mk 7 10 (-1) (-1) (-1) 0 0 []) rfl) (reps_fcons (rep_fld0 _ _ (.mk 0 1 (-1) (-1) (-1) 0 0 []) rfl) (reps_fcons (rep_fldS hsq4) (reps_fcons (rep_fld0 _ _ (.mk 3 8 (-1) (-1) (-1) (-2147483648) 0 []) rfl) reps_fnil))))))⟩⟩
 repeat first|(with_reducible first|apply wl_nil|apply qk_thn|apply wc_ret)|((with_reducible apply ws);exact rfl;exact rfl)
 exact qk_ret1 rfl rfl ⟨_, rfl, hW, hfin⟩
theorem fn_table (w : World) : Fn 25 [] w fun v w' => ∃ fv, v = .agg #[fv, .int .i64 m.flex] ∧ Sq w'.heap.size w' fv (m.fields.map fldD) := by
 refine enter Tryz.func25 rfl Tryz.ntmps25 rfl ?_
 repeat (with_reducible first|apply wc_seq|apply wc_region)
 refine wl_alloc zv_msg rfl rfl (fun w1 hb1 hg1 hs1 => ?_)
 have hs_1 := below_of hg1 (Nat.le_refl _) (by simp)
 repeat (with_reducible first|apply wc_seq|apply wc_region|apply wl_nil|apply qk_thn)
 have hW : Below w1.heap.size w1 w1 := ⟨rfl, rfl, rfl, Nat.le_refl _, fun _ _ => rfl⟩
 refine wl_build rfl (cs := [.int .i64 3, .int .i64 3, .int .i64 (-1), .int .i64 (-1), .int .i64 (-1), .int .i64 0, .int .i64 0, .slice none 0 0]) (by kernel_rfl) rfl ?_
 refine wl_call rfl (by kernel_rfl) rfl ((fn_tsMetadataResponseBroker w1).mono ?_)
 rintro e w2 ⟨sv, rfl, hs_2, hsq1⟩
 obtain ⟨a1, c1, rfl⟩ := rep_sqshape hsq1
 refine ⟨_, rfl, ?_⟩
 replace hsq1 := rep_frw hsq1 hW.size
 replace hW := hW.trans (hs_2.mono hW.size)
 replace hb1 := hb1.below hs_2 hb1.lt
 refine wl_build rfl (cs := [.int .i64 11, .int .i64 0, .int .i64 (-1), .int .i64 (-1), .int .i64 (-1), .int .i64 0, .int .i64 10, .slice a1 (sMetadataResponseBroker.map fldD).length c1]) (by kernel_rfl) rfl ?_
 refine wl_build rfl (cs := [.int .i64 8, .int .i64 2, .int .i64 (-1), .int .i64 2, .int .i64 (-1), .int .i64 0, .int .i64 0, .slice none 0 0]) (by kernel_rfl) rfl ?_
 refine wl_build rfl (cs := [.int .i64 3, .int .i64 1, .int .i64 (-1), .int .i64 (-1), .int .i64 (-1), .int .i64 (-1), .int .i64 0, .slice none 0 0]) (by kernel_rfl) rfl ?_
 refine wl_call rfl (by kernel_rfl) rfl ((fn_tsMetadataResponseTopic w2).mono ?_)
 rintro e w3 ⟨sv, rfl, hs_3, hsq4⟩
 obtain ⟨a4, c4, rfl⟩ := rep_sqshape hsq4
 refine ⟨_, rfl, ?_⟩
 replace hsq4 := rep_frw hsq4 hW.size
 replace hsq1 := rep_fr hsq1 hs_3 (Nat.le_refl _)
 replace hW := hW.trans (hs_3.mono hW.size)
 replace hb1 := hb1.below hs_3 hb1.lt
 refine wl_build rfl (cs := [.int .i64 11, .int .i64 0, .int .i64 (-1), .int .i64 (-1), .int .i64 (-1), .int .i64 0, .int .i64 10, .slice a4 (sMetadataResponseTopic.map fldD).length c4]) (by kernel_rfl) rfl ?_
 refine wl_build rfl (cs := [.int .i64 3, .int .i64 8, .int .i64 10, .int .i64 (-1), .int .i64 (-1), .int .i64 (-2147483648), .int .i64 0, .slice none 0 0]) (by kernel_rfl) rfl ?_
 refine wl_build rfl (cs := [.int .i64 2, .int .i64 13, .int .i64 (-1), .int .i64 (-1), .int .i64 (-1), .int .i64 0, .int .i64 0, .slice none 0 0]) (by kernel_rfl) rfl ?_
 refine wl_sliceN [[.int .i64 3, .int .i64 3, .int .i64 (-1), .int .i64 (-1), .int .i64 (-1), .int .i64 0, .int .i64 0, .slice none 0 0], [.int .i64 11, .int .i64 0, .int .i64 (-1), .int .i64 (-1), .int .i64 (-1), .int .i64 0, .int .i64 10, .slice a1 (sMetadataResponseBroker.map fldD).length c1], [.int .i64 8, .int .i64 2, .int .i64 (-1), .int .i64 2, .int .i64 (-1), .int .i64 0, .int .i64 0, .slice none 0 0], [.int .i64 3, .int .i64 1, .int .i64 (-1), .int .i64 (-1), .int .i64 (-1), .int .i64 (-1), .int .i64 0, .slice none 0 0], [.int .i64 11, .int .i64 0, .int .i64 (-1), .int .i64 (-1), .int .i64 (-1), .int .i64 0, .int .i64 10, .slice a4 (sMetadataResponseTopic.map fldD).length c4], [.int .i64 3, .int .i64 8, .int .i64 10, .int .i64 (-1), .int .i64 (-1), .int .i64 (-2147483648), .int .i64 0, .slice none 0 0], [.int .i64 2, .int .i64 13, .int .i64 (-1), .int .i64 (-1), .int .i64 (-1), .int .i64 0, .int .i64 0, .slice none 0 0]] rt_flds rfl rfl (by simp) rfl rfl rfl (fun w4 hbS hgS hsS => ?_)
 have hs_4 := below_of hgS (Nat.le_refl _) (by simp)
 have hz := hW.size
 replace hsq1 := rep_fr hsq1 hs_4 (Nat.le_refl _)
 replace hsq4 := rep_fr hsq4 hs_4 (Nat.le_refl _)
 replace hW := hW.trans (hs_4.mono hW.size)
 replace hb1 := hb1.below hs_4 hb1.lt
 have hfin : Rep (Frs w1.heap.size w4.heap.size) w4 (.sq (m.fields.map fldD)) [.slice (some ⟨w3.heap.size, 0, none⟩) 7 7] := by
  simp only [Rep]
  exact ⟨_, 7, rfl, Nat.le_refl _, .inr ⟨w3.heap.size, 0, _, rfl, ⟨hz, hbS.lt⟩, hbS.cells, (reps_fcons (rep_fld0 _ _ (.mk 3 3 (-1) (-1) (-1) 0 0 []) rfl) (reps_fcons (rep_fldS hsq1) (reps_fcons (rep_fld0 _ _ (.mk 8 2 (-1) 2 (-1) 0 0 []) rfl) (reps_fcons (rep_fld0 _ _ (.mk 3 1 (-1) (-1) (-1) (-1) 0 []) rfl) (reps_fcons (rep_fldS hsq4) (reps_fcons (rep_fld0 _ _ (.mk 3 8 10 (-1) (-1) (-2147483648) 0 []) rfl) (reps_fcons (rep_fld0 _ _ (.mk 2 13 (-1) (-1) (-1) 0 0 []) rfl) reps_fnil)))))))⟩⟩
 refine wl_build rfl (cs := [.slice (some ⟨w3.heap.size, 0, none⟩) 7 7, .int .i64 9]) (by kernel_rfl) rfl ?_
 refine wl_storeBAgg (vs := [.slice (some ⟨w3.heap.size, 0, none⟩) 7 7, .int .i64 9]) rfl rfl rfl tz_msg rfl hb1 rfl (fun wz hbz hgz hsz => ?_)
 repeat (with_reducible first|apply wl_nil|apply qk_thn|apply wc_ret)
 have hW0 := hs_1.trans (hW.mono hs_1.size)
 refine qk_retCell (cs := [.slice (some ⟨w3.heap.size, 0, none⟩) 7 7, .int .i64 9]) rfl rfl ta_msg hbz ⟨_, rfl, hW0.trans (below_of hgz hW0.size (by intro q hq; simp at hq; omega)), _, rfl, ?_⟩
 exact Rep.mono (fun b hb => ⟨by have := hb.2; simp only [Lo]; omega, hgz.block b hb.2 (by have := hb.1; simp; omega)⟩) _ _ hfin
noncomputable def z0 : List Value := match Tryz.prog.info? 142 with | some i => (match i.zero with | some z => z.cells.toList | none => []) | none => []
noncomputable def d0 : List Value := match (defF Tryz.prog 59).bind fun l => setAll l z0 with | some cs => cs | none => []
noncomputable def cs0 (ver : Int) : List Value := .int .i16 ver :: d0.drop 1
theorem d0_eq : (defF Tryz.prog 59).bind (fun l => setAll l z0) = some d0 := by kernel_rfl
theorem d0_hd : d0 = .int .i16 0 :: d0.drop 1 := by kernel_rfl
theorem zv (w : World) : (zeroValue 142).run Tryz.prog w = .ok (.agg z0.toArray) w := by kernel_rfl
theorem fn_new (w : World) : Calls Tryz.prog 53 #[] w fun e w' => e = .returned (.pointer (some ⟨w.heap.size, 0, none⟩)) ∧ Box w' w.heap.size d0 142 ∧ Below w.heap.size w w' := by
 obtain ⟨l, hl, hset⟩ := Option.bind_eq_some_iff.1 d0_eq
 refine enter (vs := []) Tryz.func53 rfl Tryz.ntmps53 rfl ?_
 repeat first|(with_reducible first|apply wc_seq|apply wc_region|apply wl_nil|apply qk_thn)|((with_reducible apply ws);exact rfl;exact rfl)
 refine wl_alloc zv rfl rfl (fun w1 hb1 hg1 hs1 => ?_)
 repeat (with_reducible first|apply wc_seq|apply wc_region|apply wl_nil|apply qk_thn)
 have hdef := defF_ok (w := w1) hl (b := w.heap.size) (pre := []) (cs := z0) (post := []) (cs' := d0) (e := 142) (by simpa using hb1) hset
 refine wl_call rfl hdef.1 rfl (hdef.2.mono ?_)
 rintro e w2 ⟨rfl, hb2, hc2⟩
 refine ⟨_, rfl, ?_⟩
 repeat first|(with_reducible first|apply wc_seq|apply wc_region|apply wl_nil|apply qk_thn|apply wc_ret)|((with_reducible apply ws);exact rfl;exact rfl)
 exact qk_ret1 rfl rfl ⟨rfl, by simpa using hb2, (below_of hg1 (Nat.le_refl _) (by simp)).trans (chg_below hc2 (fun j hj h => by have : j = w.heap.size := h; omega) (by omega))⟩
theorem fn_max (w : World) : Calls Tryz.prog 24 #[] w fun e w' => e = .returned (.int .i64 (most : Int)) ∧ Below w.heap.size w w' := by
 refine enter (vs := []) Tryz.func24 rfl Tryz.ntmps24 rfl ?_
 repeat first|(with_reducible first|apply wc_seq|apply wc_region|apply wl_nil|apply qk_thn)|((with_reducible apply ws);exact rfl;exact rfl)
 refine wl_call rfl (by kernel_rfl) rfl ((fn_new w).mono ?_)
 rintro e w1 ⟨rfl, hb1, hw1⟩
 refine ⟨_, rfl, ?_⟩
 skip
 have hmax : Calls Tryz.prog 54 #[.pointer (some ⟨w.heap.size, 0, none⟩)] w1 fun e w' => e = .returned (.int .i16 (most : Int)) ∧ w' = w1 := by
  refine enter (vs := [.pointer (some ⟨w.heap.size, 0, none⟩)]) Tryz.func54 rfl Tryz.ntmps54 rfl ?_
  repeat first|(with_reducible first|apply wc_seq|apply wc_region|apply wl_nil|apply qk_thn|apply wc_ret)|((with_reducible apply ws);exact rfl;exact rfl)
  exact qk_ret1 rfl rfl ⟨rfl, rfl⟩
 refine wl_call rfl (by kernel_rfl) rfl ((hmax).mono ?_)
 rintro e w2 ⟨rfl, rfl⟩
 refine ⟨_, rfl, ?_⟩
 refine wl_conv .i64 rfl ti_i16 ti_i64 rfl (r := (most : Int)) rfl ?_
 repeat first|(with_reducible first|apply wl_nil|apply qk_thn|apply wc_ret)|((with_reducible apply ws);exact rfl;exact rfl)
 exact qk_ret1 rfl rfl ⟨rfl, hw1⟩
theorem fn_set (w : World) (b : Nat) (x : Value) (r : List Value) (ver : Int) (hb : Box w b (x :: r) 142) : Calls Tryz.prog 57 #[.pointer (some ⟨b, 0, none⟩), .int .i16 ver] w fun e w' => e = .returned (.tuple #[]) ∧ Box w' b (.int .i16 ver :: r) 142 ∧ w.grownBy w' (some b) := by
 refine enter (vs := [.pointer (some ⟨b, 0, none⟩), .int .i16 ver]) Tryz.func57 rfl Tryz.ntmps57 rfl ?_
 repeat first|(with_reducible apply wc_region)|((with_reducible apply ws);exact rfl;exact rfl)
 refine wl_storeB (i := 0) rfl rfl to_i16 rfl hb rfl (fun w1 hb1 hg1 _ => ?_)
 exact wl_nil (qk_end0 rfl ⟨rfl, hb1, hg1⟩)
theorem tabT_m : tabTs m.fields = true := by decide
theorem noPt_m : noPts m.fields = true := by decide
theorem rd_0 : (readOkZ Tryz.prog Rdk.kr 98 ((0 : Nat) : Int) true (m.flexible ((0 : Nat) : Int)) m.fields (cs0 ((0 : Nat) : Int)) && tabFs ((0 : Nat) : Int) m.fields) = true := by kernel_rfl
theorem rd_1 : (readOkZ Tryz.prog Rdk.kr 98 ((1 : Nat) : Int) true (m.flexible ((1 : Nat) : Int)) m.fields (cs0 ((1 : Nat) : Int)) && tabFs ((1 : Nat) : Int) m.fields) = true := by kernel_rfl
theorem rd_2 : (readOkZ Tryz.prog Rdk.kr 98 ((2 : Nat) : Int) true (m.flexible ((2 : Nat) : Int)) m.fields (cs0 ((2 : Nat) : Int)) && tabFs ((2 : Nat) : Int) m.fields) = true := by kernel_rfl
theorem rd_3 : (readOkZ Tryz.prog Rdk.kr 98 ((3 : Nat) : Int) true (m.flexible ((3 : Nat) : Int)) m.fields (cs0 ((3 : Nat) : Int)) && tabFs ((3 : Nat) : Int) m.fields) = true := by kernel_rfl
theorem rd_4 : (readOkZ Tryz.prog Rdk.kr 98 ((4 : Nat) : Int) true (m.flexible ((4 : Nat) : Int)) m.fields (cs0 ((4 : Nat) : Int)) && tabFs ((4 : Nat) : Int) m.fields) = true := by kernel_rfl
theorem rd_5 : (readOkZ Tryz.prog Rdk.kr 98 ((5 : Nat) : Int) true (m.flexible ((5 : Nat) : Int)) m.fields (cs0 ((5 : Nat) : Int)) && tabFs ((5 : Nat) : Int) m.fields) = true := by kernel_rfl
theorem rd_6 : (readOkZ Tryz.prog Rdk.kr 98 ((6 : Nat) : Int) true (m.flexible ((6 : Nat) : Int)) m.fields (cs0 ((6 : Nat) : Int)) && tabFs ((6 : Nat) : Int) m.fields) = true := by kernel_rfl
theorem rd_7 : (readOkZ Tryz.prog Rdk.kr 98 ((7 : Nat) : Int) true (m.flexible ((7 : Nat) : Int)) m.fields (cs0 ((7 : Nat) : Int)) && tabFs ((7 : Nat) : Int) m.fields) = true := by kernel_rfl
theorem rd_8 : (readOkZ Tryz.prog Rdk.kr 98 ((8 : Nat) : Int) true (m.flexible ((8 : Nat) : Int)) m.fields (cs0 ((8 : Nat) : Int)) && tabFs ((8 : Nat) : Int) m.fields) = true := by kernel_rfl
theorem rd_9 : (readOkZ Tryz.prog Rdk.kr 98 ((9 : Nat) : Int) true (m.flexible ((9 : Nat) : Int)) m.fields (cs0 ((9 : Nat) : Int)) && tabFs ((9 : Nat) : Int) m.fields) = true := by kernel_rfl
theorem rd_10 : (readOkZ Tryz.prog Rdk.kr 98 ((10 : Nat) : Int) true (m.flexible ((10 : Nat) : Int)) m.fields (cs0 ((10 : Nat) : Int)) && tabFs ((10 : Nat) : Int) m.fields) = true := by kernel_rfl
theorem rd_11 : (readOkZ Tryz.prog Rdk.kr 98 ((11 : Nat) : Int) true (m.flexible ((11 : Nat) : Int)) m.fields (cs0 ((11 : Nat) : Int)) && tabFs ((11 : Nat) : Int) m.fields) = true := by kernel_rfl
theorem rd_12 : (readOkZ Tryz.prog Rdk.kr 98 ((12 : Nat) : Int) true (m.flexible ((12 : Nat) : Int)) m.fields (cs0 ((12 : Nat) : Int)) && tabFs ((12 : Nat) : Int) m.fields) = true := by kernel_rfl
theorem rd_13 : (readOkZ Tryz.prog Rdk.kr 98 ((13 : Nat) : Int) true (m.flexible ((13 : Nat) : Int)) m.fields (cs0 ((13 : Nat) : Int)) && tabFs ((13 : Nat) : Int) m.fields) = true := by kernel_rfl
theorem rd_all : ∀ v : Nat, v ≤ most → (readOkZ Tryz.prog Rdk.kr 98 (v : Int) true (m.flexible (v : Int)) m.fields (cs0 (v : Int)) && tabFs (v : Int) m.fields) = true
 | 0, _ => rd_0
 | 1, _ => rd_1
 | 2, _ => rd_2
 | 3, _ => rd_3
 | 4, _ => rd_4
 | 5, _ => rd_5
 | 6, _ => rd_6
 | 7, _ => rd_7
 | 8, _ => rd_8
 | 9, _ => rd_9
 | 10, _ => rd_10
 | 11, _ => rd_11
 | 12, _ => rd_12
 | 13, _ => rd_13
 | n + 14, h => absurd h (by simp only [most]; omega)
theorem rd (v : Nat) (h : v ≤ most) : readOkZ Tryz.prog Rdk.kr 98 (v : Int) true (m.flexible (v : Int)) m.fields (cs0 (v : Int)) = true ∧ tabFs (v : Int) m.fields = true := by
 have := rd_all v h
 simpa only [Bool.and_eq_true] using this
theorem tg_ok (v : Int) : m.flexible v = true → true = true := fun _ => rfl
theorem fn_read (v : Nat) (hv : v ≤ most) (t : Tree) (ht : t.ok) (w : World) (ev sv : Value) (b sb : Nat) (hb : Box w b (cs0 (v : Int)) 142) (hs : SrcAt w sb sv (wPart (v : Int) (m.flexible (v : Int)) m.fields t)) (hsb : sb < w.heap.size) (hne : b ≠ sb)
  (hg : w.cell? ⟨1, 0, none⟩ = some ev) (hgb : 1 ≠ b) (hgl : 1 < w.heap.size) :
  Calls Tryz.prog 58 #[.pointer (some ⟨b, 0, none⟩), sv] w fun en w' => en = .returned .nilIface ∧ ∃ cs' lo new, w.heap.size ≤ lo ∧ Box w' b cs' 142 ∧ Reps (Dk sb lo w') w' (.lit (.int .i16 (v : Int)) :: new) cs' ∧ HzP (v : Int) true (m.flexible (v : Int)) m.fields ((fitP (v : Int) m.fields t).withNull false) new ∧ Chg (fun j => j = b ∨ w.heap.size ≤ j) w w' := by
 obtain ⟨hread, htab⟩ := rd v hv
 obtain ⟨hfit, hwire⟩ := fitt_ok htab ht (m.flexible (v : Int))
 have hr := readZ_ok (Rdk.kr_ok ev) Rdk.kr_ty (tg_ok (v : Int)) hread hfit hb (by rw [hwire]; exact hs) hsb hne hg hgb hgl
 refine enter (vs := [.pointer (some ⟨b, 0, none⟩), sv]) Tryz.func58 rfl Tryz.ntmps58 rfl ?_
 repeat first|(with_reducible first|apply wc_seq|apply wc_region|apply wl_nil|apply qk_thn)|((with_reducible apply ws);exact rfl;exact rfl)
 refine wl_call rfl hr.1 rfl (hr.2.mono ?_)
 rintro en w1 ⟨rfl, h⟩
 refine ⟨_, rfl, ?_⟩
 repeat first|(with_reducible first|apply wl_nil|apply qk_thn|apply wc_ret)|((with_reducible apply ws);exact rfl;exact rfl)
 exact qk_ret1 rfl rfl ⟨rfl, h⟩
theorem fo_t4 : fieldOff Tryz.prog 35 4 = some 4 := by kernel_rfl
set_option maxHeartbeats 4000000 in
theorem clo_MetadataResponseBroker : ClC Tryz.prog 35 81 148 := by
 refine ⟨by kernel_rfl, fun w lo tb B hd d us k s val hU hhd hval hBt hk hs hmany => ?_⟩
 obtain ⟨a0, a1, a2, a3, rfl⟩ : ∃ a0 a1 a2 a3, hd = [a0, a1, a2, a3] := by
  match hd, hhd with
  | [a0, a1, a2, a3], _ => exact ⟨a0, a1, a2, a3, rfl⟩
 have hsq : Sq B w val (s.map byteD) := hval
 obtain ⟨va, vc, rfl, _⟩ := hsq.shape
 obtain ⟨da, dc, hds⟩ := hU.row.shape
 have hlo := hU.lt
 have hlw := hU.low
 have hdl := hU.row.low
 have hbx0 : Box w tb [a0, a1, a2, a3, d] 35 := hU.box
 refine enter (vs := [.int .u32 (k : Int), .slice va (s.map byteD).length vc, .pointer (some ⟨tb, 0, none⟩)]) Tryz.func148 rfl Tryz.ntmps148 rfl ?_
 refine wc_parS [(0, .pointer (some ⟨tb, 0 + 4, none⟩)), (1, d), (2, .int .u32 (k : Int)), (3, .slice va (s.map byteD).length vc), (8, .pointer (some ⟨tb, 0 + 4, none⟩))] [9, 7, 6, 5, 4]
  (fun vals w' => match vals with
   | [] => Chg (fun _ => False) w w'
   | [v] => Chg (fun _ => False) w w' ∧ (∃ a n c, v = .slice a n c) ∧ Rep (In 0 w.heap.size w') w' (bytesD s) [v]
   | [v, _] => Chg (fun _ => False) w w' ∧ ∃ sv, (∃ a n c, sv = .slice a n c) ∧ v = .agg ([.int .u32 (k : Int), sv] : List Value).toArray ∧ Rep (In 0 w.heap.size w') w' (bytesD s) [sv]
   | [v, _, _] => Chg (fun _ => False) w w' ∧ ∃ (b8 : Nat) (sv : Value), (∃ a n c, sv = .slice a n c) ∧ v = .slice (some ⟨b8, 0, none⟩) 1 1 ∧ Box w' b8 [.int .u32 (k : Int), sv] 81 ∧ Rep (In 0 w.heap.size w') w' (bytesD s) [sv]
   | [v, _, _, _] => Chg (fun j => d.ownBlock = some j) w w' ∧ Box w' tb [a0, a1, a2, a3, d] 35 ∧ RowD 0 lo tb 81 2 w' v ((us ++ [(k, s)]).map tagD)
   | _ :: v :: _ => Chg (fun j => j = tb ∨ d.ownBlock = some j) w w' ∧ Box w' tb [a0, a1, a2, a3, v] 35 ∧ RowD 0 lo tb 81 2 w' v ((us ++ [(k, s)]).map tagD))
  mixed rfl rfl rfl rfl rfl (by show ([0,1,2,3,8] : List Nat).Nodup; decide) rfl rfl (by decide) rfl rfl rfl rfl (chg_drew _ _) ?_ ⟨?_, ?_, ?_, ?_, ?_, trivial⟩ ?_
 ·intro p hp vals w' hC hnp a kn
  simp only [List.mem_cons, List.not_mem_nil, or_false] at hp
  rcases hp with rfl | rfl | rfl | rfl | rfl
  ·exact gv rfl rfl (rn_fieldAddr kn rfl fo_t4)
  ·have hbx : Box w' tb [a0, a1, a2, a3, d] 35 := by
    match vals, hC, hnp with
    | [], h, _ => exact hbx0.chg h (fun h => h)
    | [_], h, _ => exact hbx0.chg h.1 (fun h => h)
    | [_, _], h, _ => exact hbx0.chg h.1 (fun h => h)
    | [_, _, _], h, _ => exact hbx0.chg h.1 (fun h => h)
    | [_, _, _, _], h, _ => exact h.2.1
    | _ :: _ :: _ :: _ :: _ :: r, _, hnp =>
     have := hnp 9 (by rw [show ([9, 7, 6, 5, 4] : List Nat).length - (_ :: _ :: _ :: _ :: _ :: r).length = 0 from by simp only [List.length_cons, List.length_nil]; omega]; simp)
     exact absurd (show true = false from this) (by simp)
   exact gv rfl rfl (rn_load kn rfl Impl.to_tags (hbx.cell0 (i := 4) rfl))
  ·exact gv rfl rfl (rn_move kn rfl)
  ·exact gv rfl rfl (rn_move kn rfl)
  ·exact gv rfl rfl (rn_fieldAddr kn rfl fo_t4)
 ·rintro vals w' hvl hC a kn
  match vals, hvl with
  | [v7, v6, v5, v4], _ =>
   obtain ⟨hc, hbx, hrd⟩ := hC
   obtain ⟨a7, c7, rfl⟩ := hrd.shape
   refine ⟨_, rfl, does_storeB kn rfl rfl Impl.to_tags rfl hbx rfl (fun w'' hbx'' hg'' hs'' => ⟨?_, hbx'', hrd.stored hg''⟩)⟩
   exact (hc.wide (fun j h => .inr h)).trans ((Chg.grown hg'').wide (fun j h => .inl h))
 ·rintro vals w' hvl hC a kn
  match vals, hvl with
  | [v6, v5, v4], _ =>
   obtain ⟨hc, b8, sv, ⟨sa, sn, sc, rfl⟩, rfl, hb8, hrep⟩ := hC
   have hsz := hc.size
   have hrdw := hU.row.below ⟨hc.os, hc.tape, hc.output, hc.size, fun j hj => hc.block j hj (fun h => h)⟩
   obtain ⟨xs0, hrow0, hreps0⟩ := hrdw.row
   refine ⟨_, rfl, does_app1 kn Impl.rt_tags rfl rfl hb8 rfl rfl hrow0 (by omega) (by simp only [List.length_map]; omega) (fun d' w'' hrow'' hg'' => ⟨?_, ?_, ?_⟩)⟩
   ·have h2 : Chg (fun j => d.ownBlock = some j) w' w'' := ⟨hg''.grown.os, hg''.grown.tape, hg''.grown.output, hg''.grown.size, fun j hj hn => hg''.grown.block j hj (fun e => hn e.symm)⟩
    exact (hc.wide (fun j h => h.elim)).trans h2
   ·have hb := hbx0.chg hc (fun h => h)
    exact hb.kept hg''.grown (fun e => hU.row.apart e.symm)
   ·rw [List.map_append, List.map_cons, List.map_nil]
    refine hrdw.snoc (by omega) (by have := hbx0.lt; omega) hreps0 ?_ hrow'' hg''
    simp only [tagD, Rep, Reps]
    refine ⟨[_], _, rfl, rfl, [_], _, rfl, ?_, rfl⟩
    refine hrep.up (fun r hr => ⟨.inr (by rcases hr.1 with h | h; exact absurd h (Nat.not_lt_zero _); omega), hr.2, ?_, fun e => ?_⟩) (fun _ _ => rfl)
    ·rcases hr.1 with h | h
     ·exact absurd h (Nat.not_lt_zero _)
     ·have := hbx0.lt; omega
    ·rcases hr.1 with h | h
     ·exact absurd h (Nat.not_lt_zero _)
     ·have := (hdl r e).2; omega
 ·rintro vals w' hvl hC a kn
  match vals, hvl with
  | [v5, v4], _ =>
   obtain ⟨hc, sv, ⟨sa, sn, sc, rfl⟩, rfl, hrep⟩ := hC
   have hga := grown_alloc w' (.cells ([.int .u32 (k : Int), .slice sa sn sc] : List Value).toArray 81)
   refine ⟨_, rfl, does_slice1 (cs := [.int .u32 (k : Int), .slice sa sn sc]) kn Impl.rt_tags rfl rfl rfl rfl ⟨hc.trans (Chg.grown0 hga), _, _, ⟨sa, sn, sc, rfl⟩, rfl, box_alloc _ _ _, hrep.up (fun r hr => ⟨hr.1, by have := hr.2; simp; omega⟩) (fun r hr => hga.block r hr.2 (by simp))⟩⟩
 ·rintro vals w' hvl hC a kn
  match vals, hvl with
  | [v4], _ =>
   obtain ⟨hc, ⟨sa, sn, sc, rfl⟩, hrep⟩ := hC
   exact ⟨_, rfl, does_build (ps := [(0, .tmp 7), (1, .tmp 9)]) (cs := [.int .u32 (k : Int), .slice sa sn sc]) kn rfl (by kernel_rfl) ⟨hc, _, ⟨sa, sn, sc, rfl⟩, rfl, hrep⟩⟩
 ·rintro vals w' hvl hC a kn
  match vals, hvl with
  | [], _ =>
   have hsb : BytesAt w' (.slice va (s.map byteD).length vc) s := hsq.bytes.below ⟨hC.os, hC.tape, hC.output, hC.size, fun j hj => hC.block j hj (fun h => h)⟩
   refine ⟨_, rfl, does_appSl kn tb_bytes tb_bytes rfl rfl hsb (Own.nil w' w'.heap.size 5) (Nat.le_refl _) (by simpa using hs) (fun d' w'' ho hg => ?_)⟩
   rw [List.nil_append] at ho
   obtain ⟨oa, oc, rfl⟩ := ho.shape
   refine ⟨hC.trans (Chg.grown0 hg.grown), ⟨_, _, _, rfl⟩, own_rep (l0 := w.heap.size) ho hC.size⟩
 ·rintro vals w' hvl hC
  match vals, hvl with
  | [v9, v7, v6, v5, v4], _ =>
   obtain ⟨hc, hbx, hrd⟩ := hC
   exact qk_end0 rfl ⟨rfl, v7, ⟨hbx, hrd, hlo, by have := hc.size; omega⟩, hc⟩
set_option maxHeartbeats 4000000 in
theorem clo_MetadataResponseTopicPartition : ClC Tryz.prog 35 81 163 := by
 refine ⟨by kernel_rfl, fun w lo tb B hd d us k s val hU hhd hval hBt hk hs hmany => ?_⟩
 obtain ⟨a0, a1, a2, a3, rfl⟩ : ∃ a0 a1 a2 a3, hd = [a0, a1, a2, a3] := by
  match hd, hhd with
  | [a0, a1, a2, a3], _ => exact ⟨a0, a1, a2, a3, rfl⟩
 have hsq : Sq B w val (s.map byteD) := hval
 obtain ⟨va, vc, rfl, _⟩ := hsq.shape
 obtain ⟨da, dc, hds⟩ := hU.row.shape
 have hlo := hU.lt
 have hlw := hU.low
 have hdl := hU.row.low
 have hbx0 : Box w tb [a0, a1, a2, a3, d] 35 := hU.box
 refine enter (vs := [.int .u32 (k : Int), .slice va (s.map byteD).length vc, .pointer (some ⟨tb, 0, none⟩)]) Tryz.func163 rfl Tryz.ntmps163 rfl ?_
 refine wc_parS [(0, .pointer (some ⟨tb, 0 + 4, none⟩)), (1, d), (2, .int .u32 (k : Int)), (3, .slice va (s.map byteD).length vc), (8, .pointer (some ⟨tb, 0 + 4, none⟩))] [9, 7, 6, 5, 4]
  (fun vals w' => match vals with
   | [] => Chg (fun _ => False) w w'
   | [v] => Chg (fun _ => False) w w' ∧ (∃ a n c, v = .slice a n c) ∧ Rep (In 0 w.heap.size w') w' (bytesD s) [v]
   | [v, _] => Chg (fun _ => False) w w' ∧ ∃ sv, (∃ a n c, sv = .slice a n c) ∧ v = .agg ([.int .u32 (k : Int), sv] : List Value).toArray ∧ Rep (In 0 w.heap.size w') w' (bytesD s) [sv]
   | [v, _, _] => Chg (fun _ => False) w w' ∧ ∃ (b8 : Nat) (sv : Value), (∃ a n c, sv = .slice a n c) ∧ v = .slice (some ⟨b8, 0, none⟩) 1 1 ∧ Box w' b8 [.int .u32 (k : Int), sv] 81 ∧ Rep (In 0 w.heap.size w') w' (bytesD s) [sv]
   | [v, _, _, _] => Chg (fun j => d.ownBlock = some j) w w' ∧ Box w' tb [a0, a1, a2, a3, d] 35 ∧ RowD 0 lo tb 81 2 w' v ((us ++ [(k, s)]).map tagD)
   | _ :: v :: _ => Chg (fun j => j = tb ∨ d.ownBlock = some j) w w' ∧ Box w' tb [a0, a1, a2, a3, v] 35 ∧ RowD 0 lo tb 81 2 w' v ((us ++ [(k, s)]).map tagD))
  mixed rfl rfl rfl rfl rfl (by show ([0,1,2,3,8] : List Nat).Nodup; decide) rfl rfl (by decide) rfl rfl rfl rfl (chg_drew _ _) ?_ ⟨?_, ?_, ?_, ?_, ?_, trivial⟩ ?_
 ·intro p hp vals w' hC hnp a kn
  simp only [List.mem_cons, List.not_mem_nil, or_false] at hp
  rcases hp with rfl | rfl | rfl | rfl | rfl
  ·exact gv rfl rfl (rn_fieldAddr kn rfl fo_t4)
  ·have hbx : Box w' tb [a0, a1, a2, a3, d] 35 := by
    match vals, hC, hnp with
    | [], h, _ => exact hbx0.chg h (fun h => h)
    | [_], h, _ => exact hbx0.chg h.1 (fun h => h)
    | [_, _], h, _ => exact hbx0.chg h.1 (fun h => h)
    | [_, _, _], h, _ => exact hbx0.chg h.1 (fun h => h)
    | [_, _, _, _], h, _ => exact h.2.1
    | _ :: _ :: _ :: _ :: _ :: r, _, hnp =>
     have := hnp 9 (by rw [show ([9, 7, 6, 5, 4] : List Nat).length - (_ :: _ :: _ :: _ :: _ :: r).length = 0 from by simp only [List.length_cons, List.length_nil]; omega]; simp)
     exact absurd (show true = false from this) (by simp)
   exact gv rfl rfl (rn_load kn rfl Impl.to_tags (hbx.cell0 (i := 4) rfl))
  ·exact gv rfl rfl (rn_move kn rfl)
  ·exact gv rfl rfl (rn_move kn rfl)
  ·exact gv rfl rfl (rn_fieldAddr kn rfl fo_t4)
 ·rintro vals w' hvl hC a kn
  match vals, hvl with
  | [v7, v6, v5, v4], _ =>
   obtain ⟨hc, hbx, hrd⟩ := hC
   obtain ⟨a7, c7, rfl⟩ := hrd.shape
   refine ⟨_, rfl, does_storeB kn rfl rfl Impl.to_tags rfl hbx rfl (fun w'' hbx'' hg'' hs'' => ⟨?_, hbx'', hrd.stored hg''⟩)⟩
   exact (hc.wide (fun j h => .inr h)).trans ((Chg.grown hg'').wide (fun j h => .inl h))
 ·rintro vals w' hvl hC a kn
  match vals, hvl with
  | [v6, v5, v4], _ =>
   obtain ⟨hc, b8, sv, ⟨sa, sn, sc, rfl⟩, rfl, hb8, hrep⟩ := hC
   have hsz := hc.size
   have hrdw := hU.row.below ⟨hc.os, hc.tape, hc.output, hc.size, fun j hj => hc.block j hj (fun h => h)⟩
   obtain ⟨xs0, hrow0, hreps0⟩ := hrdw.row
   refine ⟨_, rfl, does_app1 kn Impl.rt_tags rfl rfl hb8 rfl rfl hrow0 (by omega) (by simp only [List.length_map]; omega) (fun d' w'' hrow'' hg'' => ⟨?_, ?_, ?_⟩)⟩
   ·have h2 : Chg (fun j => d.ownBlock = some j) w' w'' := ⟨hg''.grown.os, hg''.grown.tape, hg''.grown.output, hg''.grown.size, fun j hj hn => hg''.grown.block j hj (fun e => hn e.symm)⟩
    exact (hc.wide (fun j h => h.elim)).trans h2
   ·have hb := hbx0.chg hc (fun h => h)
    exact hb.kept hg''.grown (fun e => hU.row.apart e.symm)
   ·rw [List.map_append, List.map_cons, List.map_nil]
    refine hrdw.snoc (by omega) (by have := hbx0.lt; omega) hreps0 ?_ hrow'' hg''
    simp only [tagD, Rep, Reps]
    refine ⟨[_], _, rfl, rfl, [_], _, rfl, ?_, rfl⟩
    refine hrep.up (fun r hr => ⟨.inr (by rcases hr.1 with h | h; exact absurd h (Nat.not_lt_zero _); omega), hr.2, ?_, fun e => ?_⟩) (fun _ _ => rfl)
    ·rcases hr.1 with h | h
     ·exact absurd h (Nat.not_lt_zero _)
     ·have := hbx0.lt; omega
    ·rcases hr.1 with h | h
     ·exact absurd h (Nat.not_lt_zero _)
     ·have := (hdl r e).2; omega
 ·rintro vals w' hvl hC a kn
  match vals, hvl with
  | [v5, v4], _ =>
   obtain ⟨hc, sv, ⟨sa, sn, sc, rfl⟩, rfl, hrep⟩ := hC
   have hga := grown_alloc w' (.cells ([.int .u32 (k : Int), .slice sa sn sc] : List Value).toArray 81)
   refine ⟨_, rfl, does_slice1 (cs := [.int .u32 (k : Int), .slice sa sn sc]) kn Impl.rt_tags rfl rfl rfl rfl ⟨hc.trans (Chg.grown0 hga), _, _, ⟨sa, sn, sc, rfl⟩, rfl, box_alloc _ _ _, hrep.up (fun r hr => ⟨hr.1, by have := hr.2; simp; omega⟩) (fun r hr => hga.block r hr.2 (by simp))⟩⟩
 ·rintro vals w' hvl hC a kn
  match vals, hvl with
  | [v4], _ =>
   obtain ⟨hc, ⟨sa, sn, sc, rfl⟩, hrep⟩ := hC
   exact ⟨_, rfl, does_build (ps := [(0, .tmp 7), (1, .tmp 9)]) (cs := [.int .u32 (k : Int), .slice sa sn sc]) kn rfl (by kernel_rfl) ⟨hc, _, ⟨sa, sn, sc, rfl⟩, rfl, hrep⟩⟩
 ·rintro vals w' hvl hC a kn
  match vals, hvl with
  | [], _ =>
   have hsb : BytesAt w' (.slice va (s.map byteD).length vc) s := hsq.bytes.below ⟨hC.os, hC.tape, hC.output, hC.size, fun j hj => hC.block j hj (fun h => h)⟩
   refine ⟨_, rfl, does_appSl kn tb_bytes tb_bytes rfl rfl hsb (Own.nil w' w'.heap.size 5) (Nat.le_refl _) (by simpa using hs) (fun d' w'' ho hg => ?_)⟩
   rw [List.nil_append] at ho
   obtain ⟨oa, oc, rfl⟩ := ho.shape
   refine ⟨hC.trans (Chg.grown0 hg.grown), ⟨_, _, _, rfl⟩, own_rep (l0 := w.heap.size) ho hC.size⟩
 ·rintro vals w' hvl hC
  match vals, hvl with
  | [v9, v7, v6, v5, v4], _ =>
   obtain ⟨hc, hbx, hrd⟩ := hC
   exact qk_end0 rfl ⟨rfl, v7, ⟨hbx, hrd, hlo, by have := hc.size; omega⟩, hc⟩
set_option maxHeartbeats 4000000 in
theorem clo_MetadataResponseTopic : ClC Tryz.prog 35 81 151 := by
 refine ⟨by kernel_rfl, fun w lo tb B hd d us k s val hU hhd hval hBt hk hs hmany => ?_⟩
 obtain ⟨a0, a1, a2, a3, rfl⟩ : ∃ a0 a1 a2 a3, hd = [a0, a1, a2, a3] := by
  match hd, hhd with
  | [a0, a1, a2, a3], _ => exact ⟨a0, a1, a2, a3, rfl⟩
 have hsq : Sq B w val (s.map byteD) := hval
 obtain ⟨va, vc, rfl, _⟩ := hsq.shape
 obtain ⟨da, dc, hds⟩ := hU.row.shape
 have hlo := hU.lt
 have hlw := hU.low
 have hdl := hU.row.low
 have hbx0 : Box w tb [a0, a1, a2, a3, d] 35 := hU.box
 refine enter (vs := [.int .u32 (k : Int), .slice va (s.map byteD).length vc, .pointer (some ⟨tb, 0, none⟩)]) Tryz.func151 rfl Tryz.ntmps151 rfl ?_
 refine wc_parS [(0, .pointer (some ⟨tb, 0 + 4, none⟩)), (1, d), (2, .int .u32 (k : Int)), (3, .slice va (s.map byteD).length vc), (8, .pointer (some ⟨tb, 0 + 4, none⟩))] [9, 7, 6, 5, 4]
  (fun vals w' => match vals with
   | [] => Chg (fun _ => False) w w'
   | [v] => Chg (fun _ => False) w w' ∧ (∃ a n c, v = .slice a n c) ∧ Rep (In 0 w.heap.size w') w' (bytesD s) [v]
   | [v, _] => Chg (fun _ => False) w w' ∧ ∃ sv, (∃ a n c, sv = .slice a n c) ∧ v = .agg ([.int .u32 (k : Int), sv] : List Value).toArray ∧ Rep (In 0 w.heap.size w') w' (bytesD s) [sv]
   | [v, _, _] => Chg (fun _ => False) w w' ∧ ∃ (b8 : Nat) (sv : Value), (∃ a n c, sv = .slice a n c) ∧ v = .slice (some ⟨b8, 0, none⟩) 1 1 ∧ Box w' b8 [.int .u32 (k : Int), sv] 81 ∧ Rep (In 0 w.heap.size w') w' (bytesD s) [sv]
   | [v, _, _, _] => Chg (fun j => d.ownBlock = some j) w w' ∧ Box w' tb [a0, a1, a2, a3, d] 35 ∧ RowD 0 lo tb 81 2 w' v ((us ++ [(k, s)]).map tagD)
   | _ :: v :: _ => Chg (fun j => j = tb ∨ d.ownBlock = some j) w w' ∧ Box w' tb [a0, a1, a2, a3, v] 35 ∧ RowD 0 lo tb 81 2 w' v ((us ++ [(k, s)]).map tagD))
  mixed rfl rfl rfl rfl rfl (by show ([0,1,2,3,8] : List Nat).Nodup; decide) rfl rfl (by decide) rfl rfl rfl rfl (chg_drew _ _) ?_ ⟨?_, ?_, ?_, ?_, ?_, trivial⟩ ?_
 ·intro p hp vals w' hC hnp a kn
  simp only [List.mem_cons, List.not_mem_nil, or_false] at hp
  rcases hp with rfl | rfl | rfl | rfl | rfl
  ·exact gv rfl rfl (rn_fieldAddr kn rfl fo_t4)
  ·have hbx : Box w' tb [a0, a1, a2, a3, d] 35 := by
    match vals, hC, hnp with
    | [], h, _ => exact hbx0.chg h (fun h => h)
    | [_], h, _ => exact hbx0.chg h.1 (fun h => h)
    | [_, _], h, _ => exact hbx0.chg h.1 (fun h => h)
    | [_, _, _], h, _ => exact hbx0.chg h.1 (fun h => h)
    | [_, _, _, _], h, _ => exact h.2.1
    | _ :: _ :: _ :: _ :: _ :: r, _, hnp =>
     have := hnp 9 (by rw [show ([9, 7, 6, 5, 4] : List Nat).length - (_ :: _ :: _ :: _ :: _ :: r).length = 0 from by simp only [List.length_cons, List.length_nil]; omega]; simp)
     exact absurd (show true = false from this) (by simp)
   exact gv rfl rfl (rn_load kn rfl Impl.to_tags (hbx.cell0 (i := 4) rfl))
  ·exact gv rfl rfl (rn_move kn rfl)
  ·exact gv rfl rfl (rn_move kn rfl)
  ·exact gv rfl rfl (rn_fieldAddr kn rfl fo_t4)
 ·rintro vals w' hvl hC a kn
  match vals, hvl with
  | [v7, v6, v5, v4], _ =>
   obtain ⟨hc, hbx, hrd⟩ := hC
   obtain ⟨a7, c7, rfl⟩ := hrd.shape
   refine ⟨_, rfl, does_storeB kn rfl rfl Impl.to_tags rfl hbx rfl (fun w'' hbx'' hg'' hs'' => ⟨?_, hbx'', hrd.stored hg''⟩)⟩
   exact (hc.wide (fun j h => .inr h)).trans ((Chg.grown hg'').wide (fun j h => .inl h))
 ·rintro vals w' hvl hC a kn
  match vals, hvl with
  | [v6, v5, v4], _ =>
   obtain ⟨hc, b8, sv, ⟨sa, sn, sc, rfl⟩, rfl, hb8, hrep⟩ := hC
   have hsz := hc.size
   have hrdw := hU.row.below ⟨hc.os, hc.tape, hc.output, hc.size, fun j hj => hc.block j hj (fun h => h)⟩
   obtain ⟨xs0, hrow0, hreps0⟩ := hrdw.row
   refine ⟨_, rfl, does_app1 kn Impl.rt_tags rfl rfl hb8 rfl rfl hrow0 (by omega) (by simp only [List.length_map]; omega) (fun d' w'' hrow'' hg'' => ⟨?_, ?_, ?_⟩)⟩
   ·have h2 : Chg (fun j => d.ownBlock = some j) w' w'' := ⟨hg''.grown.os, hg''.grown.tape, hg''.grown.output, hg''.grown.size, fun j hj hn => hg''.grown.block j hj (fun e => hn e.symm)⟩
    exact (hc.wide (fun j h => h.elim)).trans h2
   ·have hb := hbx0.chg hc (fun h => h)
    exact hb.kept hg''.grown (fun e => hU.row.apart e.symm)
   ·rw [List.map_append, List.map_cons, List.map_nil]
    refine hrdw.snoc (by omega) (by have := hbx0.lt; omega) hreps0 ?_ hrow'' hg''
    simp only [tagD, Rep, Reps]
    refine ⟨[_], _, rfl, rfl, [_], _, rfl, ?_, rfl⟩
    refine hrep.up (fun r hr => ⟨.inr (by rcases hr.1 with h | h; exact absurd h (Nat.not_lt_zero _); omega), hr.2, ?_, fun e => ?_⟩) (fun _ _ => rfl)
    ·rcases hr.1 with h | h
     ·exact absurd h (Nat.not_lt_zero _)
     ·have := hbx0.lt; omega
    ·rcases hr.1 with h | h
     ·exact absurd h (Nat.not_lt_zero _)
     ·have := (hdl r e).2; omega
 ·rintro vals w' hvl hC a kn
  match vals, hvl with
  | [v5, v4], _ =>
   obtain ⟨hc, sv, ⟨sa, sn, sc, rfl⟩, rfl, hrep⟩ := hC
   have hga := grown_alloc w' (.cells ([.int .u32 (k : Int), .slice sa sn sc] : List Value).toArray 81)
   refine ⟨_, rfl, does_slice1 (cs := [.int .u32 (k : Int), .slice sa sn sc]) kn Impl.rt_tags rfl rfl rfl rfl ⟨hc.trans (Chg.grown0 hga), _, _, ⟨sa, sn, sc, rfl⟩, rfl, box_alloc _ _ _, hrep.up (fun r hr => ⟨hr.1, by have := hr.2; simp; omega⟩) (fun r hr => hga.block r hr.2 (by simp))⟩⟩
 ·rintro vals w' hvl hC a kn
  match vals, hvl with
  | [v4], _ =>
   obtain ⟨hc, ⟨sa, sn, sc, rfl⟩, hrep⟩ := hC
   exact ⟨_, rfl, does_build (ps := [(0, .tmp 7), (1, .tmp 9)]) (cs := [.int .u32 (k : Int), .slice sa sn sc]) kn rfl (by kernel_rfl) ⟨hc, _, ⟨sa, sn, sc, rfl⟩, rfl, hrep⟩⟩
 ·rintro vals w' hvl hC a kn
  match vals, hvl with
  | [], _ =>
   have hsb : BytesAt w' (.slice va (s.map byteD).length vc) s := hsq.bytes.below ⟨hC.os, hC.tape, hC.output, hC.size, fun j hj => hC.block j hj (fun h => h)⟩
   refine ⟨_, rfl, does_appSl kn tb_bytes tb_bytes rfl rfl hsb (Own.nil w' w'.heap.size 5) (Nat.le_refl _) (by simpa using hs) (fun d' w'' ho hg => ?_)⟩
   rw [List.nil_append] at ho
   obtain ⟨oa, oc, rfl⟩ := ho.shape
   refine ⟨hC.trans (Chg.grown0 hg.grown), ⟨_, _, _, rfl⟩, own_rep (l0 := w.heap.size) ho hC.size⟩
 ·rintro vals w' hvl hC
  match vals, hvl with
  | [v9, v7, v6, v5, v4], _ =>
   obtain ⟨hc, hbx, hrd⟩ := hC
   exact qk_end0 rfl ⟨rfl, v7, ⟨hbx, hrd, hlo, by have := hc.size; omega⟩, hc⟩
set_option maxHeartbeats 4000000 in
theorem clo_MetadataResponse : ClC Tryz.prog 35 81 101 := by
 refine ⟨by kernel_rfl, fun w lo tb B hd d us k s val hU hhd hval hBt hk hs hmany => ?_⟩
 obtain ⟨a0, a1, a2, a3, rfl⟩ : ∃ a0 a1 a2 a3, hd = [a0, a1, a2, a3] := by
  match hd, hhd with
  | [a0, a1, a2, a3], _ => exact ⟨a0, a1, a2, a3, rfl⟩
 have hsq : Sq B w val (s.map byteD) := hval
 obtain ⟨va, vc, rfl, _⟩ := hsq.shape
 obtain ⟨da, dc, hds⟩ := hU.row.shape
 have hlo := hU.lt
 have hlw := hU.low
 have hdl := hU.row.low
 have hbx0 : Box w tb [a0, a1, a2, a3, d] 35 := hU.box
 refine enter (vs := [.int .u32 (k : Int), .slice va (s.map byteD).length vc, .pointer (some ⟨tb, 0, none⟩)]) Tryz.func101 rfl Tryz.ntmps101 rfl ?_
 refine wc_parS [(0, .pointer (some ⟨tb, 0 + 4, none⟩)), (1, d), (2, .int .u32 (k : Int)), (3, .slice va (s.map byteD).length vc), (8, .pointer (some ⟨tb, 0 + 4, none⟩))] [9, 7, 6, 5, 4]
  (fun vals w' => match vals with
   | [] => Chg (fun _ => False) w w'
   | [v] => Chg (fun _ => False) w w' ∧ (∃ a n c, v = .slice a n c) ∧ Rep (In 0 w.heap.size w') w' (bytesD s) [v]
   | [v, _] => Chg (fun _ => False) w w' ∧ ∃ sv, (∃ a n c, sv = .slice a n c) ∧ v = .agg ([.int .u32 (k : Int), sv] : List Value).toArray ∧ Rep (In 0 w.heap.size w') w' (bytesD s) [sv]
   | [v, _, _] => Chg (fun _ => False) w w' ∧ ∃ (b8 : Nat) (sv : Value), (∃ a n c, sv = .slice a n c) ∧ v = .slice (some ⟨b8, 0, none⟩) 1 1 ∧ Box w' b8 [.int .u32 (k : Int), sv] 81 ∧ Rep (In 0 w.heap.size w') w' (bytesD s) [sv]
   | [v, _, _, _] => Chg (fun j => d.ownBlock = some j) w w' ∧ Box w' tb [a0, a1, a2, a3, d] 35 ∧ RowD 0 lo tb 81 2 w' v ((us ++ [(k, s)]).map tagD)
   | _ :: v :: _ => Chg (fun j => j = tb ∨ d.ownBlock = some j) w w' ∧ Box w' tb [a0, a1, a2, a3, v] 35 ∧ RowD 0 lo tb 81 2 w' v ((us ++ [(k, s)]).map tagD))
  mixed rfl rfl rfl rfl rfl (by show ([0,1,2,3,8] : List Nat).Nodup; decide) rfl rfl (by decide) rfl rfl rfl rfl (chg_drew _ _) ?_ ⟨?_, ?_, ?_, ?_, ?_, trivial⟩ ?_
 ·intro p hp vals w' hC hnp a kn
  simp only [List.mem_cons, List.not_mem_nil, or_false] at hp
  rcases hp with rfl | rfl | rfl | rfl | rfl
  ·exact gv rfl rfl (rn_fieldAddr kn rfl fo_t4)
  ·have hbx : Box w' tb [a0, a1, a2, a3, d] 35 := by
    match vals, hC, hnp with
    | [], h, _ => exact hbx0.chg h (fun h => h)
    | [_], h, _ => exact hbx0.chg h.1 (fun h => h)
    | [_, _], h, _ => exact hbx0.chg h.1 (fun h => h)
    | [_, _, _], h, _ => exact hbx0.chg h.1 (fun h => h)
    | [_, _, _, _], h, _ => exact h.2.1
    | _ :: _ :: _ :: _ :: _ :: r, _, hnp =>
     have := hnp 9 (by rw [show ([9, 7, 6, 5, 4] : List Nat).length - (_ :: _ :: _ :: _ :: _ :: r).length = 0 from by simp only [List.length_cons, List.length_nil]; omega]; simp)
     exact absurd (show true = false from this) (by simp)
   exact gv rfl rfl (rn_load kn rfl Impl.to_tags (hbx.cell0 (i := 4) rfl))
  ·exact gv rfl rfl (rn_move kn rfl)
  ·exact gv rfl rfl (rn_move kn rfl)
  ·exact gv rfl rfl (rn_fieldAddr kn rfl fo_t4)
 ·rintro vals w' hvl hC a kn
  match vals, hvl with
  | [v7, v6, v5, v4], _ =>
   obtain ⟨hc, hbx, hrd⟩ := hC
   obtain ⟨a7, c7, rfl⟩ := hrd.shape
   refine ⟨_, rfl, does_storeB kn rfl rfl Impl.to_tags rfl hbx rfl (fun w'' hbx'' hg'' hs'' => ⟨?_, hbx'', hrd.stored hg''⟩)⟩
   exact (hc.wide (fun j h => .inr h)).trans ((Chg.grown hg'').wide (fun j h => .inl h))
 ·rintro vals w' hvl hC a kn
  match vals, hvl with
  | [v6, v5, v4], _ =>
   obtain ⟨hc, b8, sv, ⟨sa, sn, sc, rfl⟩, rfl, hb8, hrep⟩ := hC
   have hsz := hc.size
   have hrdw := hU.row.below ⟨hc.os, hc.tape, hc.output, hc.size, fun j hj => hc.block j hj (fun h => h)⟩
   obtain ⟨xs0, hrow0, hreps0⟩ := hrdw.row
   refine ⟨_, rfl, does_app1 kn Impl.rt_tags rfl rfl hb8 rfl rfl hrow0 (by omega) (by simp only [List.length_map]; omega) (fun d' w'' hrow'' hg'' => ⟨?_, ?_, ?_⟩)⟩
   ·have h2 : Chg (fun j => d.ownBlock = some j) w' w'' := ⟨hg''.grown.os, hg''.grown.tape, hg''.grown.output, hg''.grown.size, fun j hj hn => hg''.grown.block j hj (fun e => hn e.symm)⟩
    exact (hc.wide (fun j h => h.elim)).trans h2
   ·have hb := hbx0.chg hc (fun h => h)
    exact hb.kept hg''.grown (fun e => hU.row.apart e.symm)
   ·rw [List.map_append, List.map_cons, List.map_nil]
    refine hrdw.snoc (by omega) (by have := hbx0.lt; omega) hreps0 ?_ hrow'' hg''
    simp only [tagD, Rep, Reps]
    refine ⟨[_], _, rfl, rfl, [_], _, rfl, ?_, rfl⟩
    refine hrep.up (fun r hr => ⟨.inr (by rcases hr.1 with h | h; exact absurd h (Nat.not_lt_zero _); omega), hr.2, ?_, fun e => ?_⟩) (fun _ _ => rfl)
    ·rcases hr.1 with h | h
     ·exact absurd h (Nat.not_lt_zero _)
     ·have := hbx0.lt; omega
    ·rcases hr.1 with h | h
     ·exact absurd h (Nat.not_lt_zero _)
     ·have := (hdl r e).2; omega
 ·rintro vals w' hvl hC a kn
  match vals, hvl with
  | [v5, v4], _ =>
   obtain ⟨hc, sv, ⟨sa, sn, sc, rfl⟩, rfl, hrep⟩ := hC
   have hga := grown_alloc w' (.cells ([.int .u32 (k : Int), .slice sa sn sc] : List Value).toArray 81)
   refine ⟨_, rfl, does_slice1 (cs := [.int .u32 (k : Int), .slice sa sn sc]) kn Impl.rt_tags rfl rfl rfl rfl ⟨hc.trans (Chg.grown0 hga), _, _, ⟨sa, sn, sc, rfl⟩, rfl, box_alloc _ _ _, hrep.up (fun r hr => ⟨hr.1, by have := hr.2; simp; omega⟩) (fun r hr => hga.block r hr.2 (by simp))⟩⟩
 ·rintro vals w' hvl hC a kn
  match vals, hvl with
  | [v4], _ =>
   obtain ⟨hc, ⟨sa, sn, sc, rfl⟩, hrep⟩ := hC
   exact ⟨_, rfl, does_build (ps := [(0, .tmp 7), (1, .tmp 9)]) (cs := [.int .u32 (k : Int), .slice sa sn sc]) kn rfl (by kernel_rfl) ⟨hc, _, ⟨sa, sn, sc, rfl⟩, rfl, hrep⟩⟩
 ·rintro vals w' hvl hC a kn
  match vals, hvl with
  | [], _ =>
   have hsb : BytesAt w' (.slice va (s.map byteD).length vc) s := hsq.bytes.below ⟨hC.os, hC.tape, hC.output, hC.size, fun j hj => hC.block j hj (fun h => h)⟩
   refine ⟨_, rfl, does_appSl kn tb_bytes tb_bytes rfl rfl hsb (Own.nil w' w'.heap.size 5) (Nat.le_refl _) (by simpa using hs) (fun d' w'' ho hg => ?_)⟩
   rw [List.nil_append] at ho
   obtain ⟨oa, oc, rfl⟩ := ho.shape
   refine ⟨hC.trans (Chg.grown0 hg.grown), ⟨_, _, _, rfl⟩, own_rep (l0 := w.heap.size) ho hC.size⟩
 ·rintro vals w' hvl hC
  match vals, hvl with
  | [v9, v7, v6, v5, v4], _ =>
   obtain ⟨hc, hbx, hrd⟩ := hC
   exact qk_end0 rfl ⟨rfl, v7, ⟨hbx, hrd, hlo, by have := hc.size; omega⟩, hc⟩
def k0 : Tk := ⟨35, 149, 75, 129, 66, 68, [148, 163, 151, 101], 81, []⟩
theorem k0_ok : TkOk Tryz.prog k0 true := ⟨Tlk.tty, (fun _ => Tlk.boolP), (fun _ => Tlk.textP), (fun _ => Tlk.octsP), fun f fs h => by cases h⟩
theorem k0_tg : TgOk Tryz.prog k0 := ⟨Tlk.eachP, Tlk.sortP, fun f h => by
 simp only [k0, List.contains_eq_mem, decide_eq_true_eq, List.mem_cons, List.not_mem_nil, or_false] at h
 rcases h with rfl | rfl | rfl | rfl
 ·exact clo_MetadataResponseBroker
 ·exact clo_MetadataResponseTopicPartition
 ·exact clo_MetadataResponseTopic
 ·exact clo_MetadataResponse⟩
theorem tell_sMetadataResponseBroker : TlPo Tryz.prog 99 true 0 sMetadataResponseBroker := tellFn_ok k0_ok (fun _ => k0_tg) mixed (by kernel_rfl)
def k1 : Tk := ⟨k0.tT, k0.bool, k0.text, k0.octs, k0.each, k0.sorted, k0.clos, k0.gT, (99, sMetadataResponseBroker) :: k0.tells⟩
theorem k1_ok : TkOk Tryz.prog k1 true := Tlk.tk_cons k0_ok tell_sMetadataResponseBroker
theorem k1_tg : TgOk Tryz.prog k1 := Tlk.tg_cons k0_tg _ _
theorem tell_sMetadataResponseTopicPartition : TlPo Tryz.prog 150 true 0 sMetadataResponseTopicPartition := tellFn_ok k1_ok (fun _ => k1_tg) mixed (by kernel_rfl)
def k2 : Tk := ⟨k1.tT, k1.bool, k1.text, k1.octs, k1.each, k1.sorted, k1.clos, k1.gT, (150, sMetadataResponseTopicPartition) :: k1.tells⟩
theorem k2_ok : TkOk Tryz.prog k2 true := Tlk.tk_cons k1_ok tell_sMetadataResponseTopicPartition
theorem k2_tg : TgOk Tryz.prog k2 := Tlk.tg_cons k1_tg _ _
theorem tell_sMetadataResponseTopic : TlPo Tryz.prog 100 true 0 sMetadataResponseTopic := tellFn_ok k2_ok (fun _ => k2_tg) mixed (by kernel_rfl)
def k3 : Tk := ⟨k2.tT, k2.bool, k2.text, k2.octs, k2.each, k2.sorted, k2.clos, k2.gT, (100, sMetadataResponseTopic) :: k2.tells⟩
theorem k3_ok : TkOk Tryz.prog k3 true := Tlk.tk_cons k2_ok tell_sMetadataResponseTopic
theorem k3_tg : TgOk Tryz.prog k3 := Tlk.tg_cons k2_tg _ _
theorem tell_top : TlPo Tryz.prog 60 true 1 m.fields := tellFn_ok k3_ok (fun _ => k3_tg) mixed (by kernel_rfl)
theorem dfNum_m : dfNum m.fields = true := by decide
theorem def_eq (x x0 x1 x2 x3 x4 x5 x6 x7 : Value) : (defF Tryz.prog 59).bind (fun l => setAll l [x, x0, x1, x2, x3, x4, x5, x6, x7]) = some (x :: setCs true m.fields [x0, x1, x2, x3, x4, x5, x6, x7]) := by kernel_rfl
set_option maxHeartbeats 4000000 in
theorem fn_door (v : Nat) (hv : v ≤ most) (t : Tree) (ht : t.ok) (w : World) (ev sv : Value) (hs : BytesAt w sv (wPart (v : Int) (m.flexible (v : Int)) m.fields t)) (hg : w.cell? ⟨1, 0, none⟩ = some ev)
  (hl : (wPart (v : Int) (m.flexible (v : Int)) m.fields t).length ≤ lim) :
  Calls Tryz.prog 26 #[.int .i64 (v : Int), sv] w fun e w' => ∃ cs T, e = .returned (.tuple #[.agg cs.toArray, .bool true]) ∧ Rep (Lo w'.heap.size) w' (treeD T) cs ∧ T.small ∧ DfP m.fields T ∧ Below w.heap.size w w' := by
 have hvm : v < 32768 := by simp only [most] at hv; omega
 obtain ⟨sa, sc, hsv⟩ := hs.shape
 refine enter (vs := [.int .i64 (v : Int), sv]) Tryz.func26 rfl Tryz.ntmps26 rfl ?_
 repeat (with_reducible first|apply wc_seq|apply wc_region)
 refine wl_alloc Impl.zv_tree rfl rfl (fun w0 hb0 hg0 hs0 => ?_)
 have hw0 : Below w.heap.size w w0 := below_of hg0 (Nat.le_refl _) (by simp)
 repeat first|(with_reducible first|apply wc_seq|apply wc_region|apply wl_nil|apply qk_thn)|((with_reducible apply ws);exact rfl;exact rfl)
 refine wl_call rfl (by kernel_rfl) rfl ((fn_new w0).mono ?_)
 rintro e w1 ⟨rfl, hb1, hw01⟩
 refine ⟨_, rfl, ?_⟩
 have hz01 := hw01.size
 have hw1 := hw0.trans (hw01.mono (by omega))
 repeat first|(with_reducible first|apply wc_seq|apply wc_region|apply wl_nil|apply qk_thn)|((with_reducible apply ws);exact rfl;exact rfl)
 refine wl_conv .i16 rfl ti_i64 ti_i16 rfl (r := (v : Int)) (be2_ver v hvm) ?_
 rw [d0_hd] at hb1
 refine wl_call rfl (by kernel_rfl) rfl ((fn_set w1 w0.heap.size _ _ (v : Int) hb1).mono ?_)
 rintro e w2 ⟨rfl, hb2, hg2⟩
 refine ⟨_, rfl, ?_⟩
 have hlt := hb1.lt
 have hw12 : Below w0.heap.size w1 w2 := below_of hg2 (by omega) (by intro q hq; simp at hq; omega)
 have hw2 := hw1.trans (hw12.mono (by omega))
 have hs2 := hs.below hw2
 have hz2 := hg2.size
 repeat first|(with_reducible first|apply wc_seq|apply wc_region|apply wl_nil|apply qk_thn)|((with_reducible apply ws);exact rfl;exact rfl)
 refine wl_appSl tb_bytes tb_bytes rfl rfl rfl hs2 (Own.nil w2 w2.heap.size 5) (Nat.le_refl _) (by simp only [List.length_nil]; omega) (fun d3 w3 ho3 hg3 => ?_)
 have hw23 : Below w2.heap.size w2 w3 := hg3.below (Nat.le_refl _) (by simp [Value.ownBlock])
 have hw3 := hw2.trans (hw23.mono (by omega))
 have hb3 := hb2.below hw23 (by omega)
 have hz3 := hw23.size
 have hgl : 1 < w.heap.size := World.block_lt_of_cell? _ _ hg
 have hg3' : w3.cell? ⟨1, 0, none⟩ = some ev := by rw [← hg]; simp only [World.cell?, hw3.block _ hgl]
 rw [List.nil_append] at ho3
 obtain ⟨sb, hsb, hsbx, hsrc⟩ := own_src ho3 (by simp only [srcLim]; simp only [lim] at hl; omega) (by omega) (by omega)
 have hb03 : Box w3 w.heap.size [.int .i64 0, .slice none 0 0, .bool false, .slice none 0 0, .slice none 0 0] 35 := ((hb0.below hw01 (by omega)).below hw12 (by omega)).below hw23 (by omega)
 refine wl_call rfl (by kernel_rfl) rfl ((fn_read v hv t ht w3 ev d3 w0.heap.size sb hb3 hsrc hsb (by omega) hg3' (by omega) (by omega)).mono ?_)
 rintro e w4 ⟨rfl, cs4, lo4, new4, hlo4, hb4, hr4, hh4, hc4⟩
 refine ⟨_, rfl, ?_⟩
 have hw34 : Below w0.heap.size w3 w4 := chg_below hc4 (fun j hj h => by rcases h with h | h <;> omega) (by omega)
 have hw4 := hw3.trans (hw34.mono (by omega))
 have hz4 := hw34.size
 have hb04 := hb03.below hw34 (by omega)
 refine wl_ifNeNil rfl (by kernel_rfl) rfl ?_
 repeat (with_reducible first|apply wl_nil|apply qk_thn)
 refine wc_no rfl rfl ?_
 repeat first|(with_reducible first|apply wc_seq|apply wc_region|apply qk_thn|apply wc_skip)|((with_reducible apply ws);exact rfl;exact rfl)
 obtain ⟨_, htab⟩ := rd v hv
 obtain ⟨hfit, _⟩ := fitt_ok htab ht (m.flexible (v : Int))
 have hnull : (fitP (v : Int) m.fields t).withNull false = fitP (v : Int) m.fields t := rfl
 rw [hnull] at hh4 hfit
 obtain ⟨T0, hT0⟩ := exP_of' (tg_ok (v : Int)) tabT_m hfit hh4
 simp only [Reps] at hr4
 obtain ⟨c1, c2, rfl, hc1, hr4⟩ := hr4
 simp only [Rep] at hc1
 subst hc1
 have hlen4 : c2.length = 8 := by
  have h1 := Reps.len _ _ hr4
  rw [TellP.wide noPt_m hT0] at h1
  exact h1
 obtain ⟨x0, x1, x2, x3, x4, x5, x6, x7, rfl⟩ : ∃ x0 x1 x2 x3 x4 x5 x6 x7, c2 = [x0, x1, x2, x3, x4, x5, x6, x7] := by
  match c2, hlen4 with
  | [x0, x1, x2, x3, x4, x5, x6, x7], _ => exact ⟨x0, x1, x2, x3, x4, x5, x6, x7, rfl⟩
 obtain ⟨l, hl', hset⟩ := Option.bind_eq_some_iff.1 (def_eq (.int .i16 (v : Int)) x0 x1 x2 x3 x4 x5 x6 x7)
 have hdef := defF_ok (w := w4) hl' (b := w0.heap.size) (pre := []) (cs := [.int .i16 (v : Int), x0, x1, x2, x3, x4, x5, x6, x7]) (post := []) (cs' := .int .i16 (v : Int) :: setCs true m.fields [x0, x1, x2, x3, x4, x5, x6, x7]) (e := 142) (by simpa using hb4) hset
 refine wl_call rfl hdef.1 rfl (hdef.2.mono ?_)
 rintro e w4' ⟨rfl, hb4', hc4'⟩
 refine ⟨_, rfl, ?_⟩
 have hz4' := hc4'.size
 have hw44 : Below w0.heap.size w4 w4' := chg_below hc4' (fun j hj h => by have : j = w0.heap.size := h; omega) (by omega)
 have hw4' := hw4.trans (hw44.mono (by omega))
 have hb04' := hb04.below hw44 (by omega)
 have hz03 : w0.heap.size < w3.heap.size := by omega
 have hr4d : Reps (Lo w4'.heap.size) w4' new4 [x0, x1, x2, x3, x4, x5, x6, x7] := Reps.mono (fun j hj => ⟨by have := hj.2; simp only [Lo]; omega, hc4'.block j hj.2 (by
  intro h
  have h' : j = w0.heap.size := h
  rcases hj.1 with h2 | h2 <;> omega)⟩) _ _ hr4
 have hr4s := set_repsP noPt_m hT0 hr4d
 obtain ⟨⟨T1, hT1⟩, hTd⟩ := set_tellP tabT_m dfNum_m hT0
 have hat : CellsAt w4' w0.heap.size (0 + 1) (setCs true m.fields [x0, x1, x2, x3, x4, x5, x6, x7]) := by
  have h0 : Box w4' w0.heap.size (.int .i16 (v : Int) :: setCs true m.fields [x0, x1, x2, x3, x4, x5, x6, x7]) 142 := by simpa using hb4'
  have h0c : CellsAt w4' w0.heap.size 0 ([.int .i16 (v : Int)] ++ setCs true m.fields [x0, x1, x2, x3, x4, x5, x6, x7]) := h0.cells
  exact h0c.right
 repeat first|(with_reducible first|apply wc_seq|apply wc_region|apply wl_nil|apply qk_thn)|((with_reducible apply ws);exact rfl;exact rfl)
 have htell := tell_top.2 w4'.heap.size w4' w0.heap.size 0 (setCs true m.fields [x0, x1, x2, x3, x4, x5, x6, x7]) (setDf true m.fields new4) T1 hat hr4s (by omega) (Nat.le_refl _) hT1
 refine wl_call rfl tell_top.1 rfl (htell.mono ?_)
 rintro e w5 ⟨cs5, T, rfl, hr5, hT5, hc5⟩
 refine ⟨_, rfl, ?_⟩
 have hz5 := hc5.size
 have hw45 : Below w4'.heap.size w4' w5 := ⟨hc5.os, hc5.tape, hc5.output, hc5.size, fun j hj => hc5.block j hj (fun h => h)⟩
 have hw5 := hw4'.trans (hw45.mono (by omega))
 have hb05 := hb04'.below hw45 (by omega)
 obtain ⟨hone, hlen5⟩ := tree_oneG hr5
 refine wl_storeBAgg (vs := cs5) rfl rfl rfl (by rw [hlen5]; exact Impl.tz_tree) hone hb05 (by rw [hlen5]; rfl) (fun w6 hb6 hg6 hs6 => ?_)
 repeat first|(with_reducible first|apply wl_nil|apply qk_thn|apply wc_ret)|((with_reducible apply ws);exact rfl;exact rfl)
 have hw56 : Below w.heap.size w5 w6 := below_of hg6 (by omega) (by intro q hq; simp at hq; omega)
 refine qk_retCell2 rfl rfl (by rw [hlen5]; exact Impl.ta_tree) hb6 rfl ⟨cs5, T, rfl, ?_, small_P m_ok hT5, hTd T hT5, hw5.trans hw56⟩
 exact hr5.up (fun r hr => by have := hr.2; simp only [Lo]; omega) (fun r hr => hg6.block r hr.2 (by rcases hr.1 with h | h; exact absurd h (Nat.not_lt_zero _); simp; omega))
end
end Go.Proofs.YtlmnaffhadeolaaGreatDoor.BMetadataResponse

namespace Go.Proofs.YtlmnaffhadeolaaGreatDoor.BMetadataResponse
open Go Go.RowKit
section
set_option maxRecDepth 100000
theorem len_ok (t : Tree) (ht : t.ok) (hsm : t.wt ≤ 1048576) (ver : Int) (flex : Bool) : 1000 + (wPart ver flex m.fields t).length ≤ lim := by
 have h1 := wPart_price ver flex m.fields t ht
 have h2 : 1000 + partPrice m.fields * 1048576 ≤ lim := by decide +kernel
 exact Nat.le_trans (Nat.add_le_add_left (Nat.le_trans h1 (Nat.mul_le_mul_left (partPrice m.fields) hsm)) 1000) h2
set_option maxHeartbeats 4000000 in
theorem fn_law (n : Nat) (hn : n < 256) (t : Tree) (ht : t.ok) (hsm : t.wt ≤ 1048576) (w : World) (ev : Value) (ts : List Value) (hrep : Rep (Lo w.heap.size) w (treeD t) ts) (hg : w.cell? ⟨1, 0, none⟩ = some ev) :
  Fn 6 [.int .u8 (n : Int), .agg ts.toArray] w fun v _ => v = .bool true := by
 obtain ⟨sv2, lv, uv, rfl, _, _, _⟩ := tree_cells hrep
 refine enter Tryz.func6 rfl Tryz.ntmps6 rfl ?_
 repeat (with_reducible first|apply wc_seq|apply wc_region)
 refine wl_box1 rfl rfl rfl (fun w1 hb1 hg1 hs1 => ?_)
 have hw1 : Below w.heap.size w w1 := below_of hg1 (Nat.le_refl _) (by simp)
 repeat first|(with_reducible first|apply wc_seq|apply wc_region|apply wl_nil|apply qk_thn)|((with_reducible apply ws);exact rfl;exact rfl)
 refine wl_loadBAgg (cs := [.int .i64 t.n, sv2, .bool t.nul, lv, uv]) rfl ta_tree rfl hb1 ?_
 skip
 refine wl_call rfl (by kernel_rfl) rfl ((fn_fits1 t w.heap.size w1 _ (by omega) (hrep.below hw1 (Nat.le_refl _))).mono ?_)
 rintro e w2 ⟨v, rfl, hw12, q, rfl⟩
 refine ⟨_, rfl, ?_⟩
 have hz12 := hw12.size
 have hw2 := hw1.trans (hw12.mono (by omega))
 repeat first|(with_reducible first|apply wl_nil|apply qk_thn)|((with_reducible apply ws);exact rfl;exact rfl)
 cases q
 ·refine wc_yes rfl rfl ?_
  repeat first|(with_reducible first|apply wc_seq|apply wc_region|apply wl_nil|apply qk_thn|apply wc_ret|apply qk_thn_ret)|((with_reducible apply ws);exact rfl;exact rfl)
  exact qk_ret1 rfl rfl ⟨_, rfl, hw2, rfl⟩
 refine wc_no rfl rfl ?_
 repeat (with_reducible first|apply wc_seq|apply wc_region|apply qk_thn|apply wc_skip)
 refine wl_call rfl (by kernel_rfl) rfl ((fn_max w2).mono ?_)
 rintro e w3 ⟨rfl, hw23⟩
 refine ⟨_, rfl, ?_⟩
 have hz23 := hw23.size
 have hw13 := hw12.trans (hw23.mono (by omega))
 have hw3 := hw2.trans (hw23.mono (by omega))
 repeat first|(with_reducible first|apply wc_seq|apply wc_region|apply wl_nil|apply qk_thn)|((with_reducible apply ws);exact rfl;exact rfl)
 refine wc_no rfl (by decide) ?_
 repeat (with_reducible first|apply wc_seq|apply wc_region|apply qk_thn|apply wc_skip)
 refine wl_call rfl (by kernel_rfl) rfl ((fn_table w3).mono ?_)
 rintro e w4 ⟨v, rfl, hw34, fv, rfl, hsq⟩
 refine ⟨_, rfl, ?_⟩
 have hz34 := hw34.size
 have hw14 := hw13.trans (hw34.mono (by omega))
 have hw4 := hw3.trans (hw34.mono (by omega))
 repeat ((with_reducible apply ws);exact rfl;exact rfl)
 refine wl_call rfl (by kernel_rfl) rfl ((fn_version n most hn (by decide) w4).mono ?_)
 rintro e w4' ⟨v, rfl, _, hww, rfl⟩
 obtain rfl : w4 = w4' := hww.symm
 refine ⟨_, rfl, ?_⟩
 refine wl_alloc zv_msg rfl rfl (fun w5 hb5 hg5 hs5 => ?_)
 obtain ⟨fa, fc, rfl, _⟩ := hsq.shape
 refine wl_storeBAgg (vs := [.slice fa (m.fields.map fldD).length fc, .int .i64 m.flex]) rfl rfl rfl tz_msg rfl hb5 rfl (fun w6 hb6 hg6 hs6 => ?_)
 have hw46 : Below w4.heap.size w4 w6 := (below_of hg5 (Nat.le_refl _) (by simp)).trans (below_of hg6 (by omega) (by intro q hq; simp at hq; omega))
 have hz46 := hw46.size
 have hw16 := hw14.trans (hw46.mono (by omega))
 have hw6 := hw4.trans (hw46.mono (by omega))
 repeat first|(with_reducible first|apply wc_seq|apply wc_region|apply wl_nil|apply qk_thn)|((with_reducible apply ws);exact rfl;exact rfl)
 have hv : n % (most + 1) ≤ most := by have := Nat.mod_lt n (show most + 1 > 0 by omega); omega
 generalize n % (most + 1) = v at hv ⊢
 have hll := len_ok t ht hsm (v : Int) (m.flexible (v : Int))
 refine wl_loadBAgg (cs := [.slice fa (m.fields.map fldD).length fc, .int .i64 m.flex]) rfl ta_msg rfl hb6 ?_
 repeat ((with_reducible apply ws);exact rfl;exact rfl)
 refine wl_loadBAgg (cs := [.int .i64 t.n, sv2, .bool t.nul, lv, uv]) rfl ta_tree rfl (hb1.below hw16 hb1.lt) ?_
 refine wl_call rfl (by kernel_rfl) rfl ((fn_write m m_ok (v : Int) t w6.heap.size w6 _ _ ht (Nat.le_refl _) (hsq.below hw46 hz46) ((hrep.below hw6 hw6.size)) (by show (wPart _ _ _ _).length ≤ lim; omega)).mono ?_)
 rintro e w7 ⟨bv7, rfl, hw67, ho7⟩
 refine ⟨_, rfl, ?_⟩
 have ho7' : Own w7 w6.heap.size 5 bv7 (wPart (v : Int) (m.flexible (v : Int)) m.fields t) := ho7
 have hz67 := hw67.size
 have hz6 := hw6.size
 have hw7 := hw6.trans (hw67.mono (by omega))
 have hg7 : w7.cell? ⟨1, 0, none⟩ = some ev := by rw [← hg]; simp only [World.cell?, hw7.block _ (World.block_lt_of_cell? _ _ hg)]
 skip
 refine wl_call rfl (by kernel_rfl) rfl ((fn_door v hv t ht w7 ev _ ho7'.bytes hg7 (by omega)).mono ?_)
 rintro e w8 ⟨cs8, T, rfl, hr8, hsm8, hdf8, hw78⟩
 refine ⟨_, rfl, ?_⟩
 have hz78 := hw78.size
 have hw8 := hw7.trans (hw78.mono (by omega))
 obtain ⟨hone8, hlen8⟩ := tree_one hr8
 repeat ((with_reducible apply ws);exact rfl;exact rfl)
 refine wl_extract rfl rfl rfl ?_
 refine wl_extract rfl rfl rfl ?_
 refine wl_alloc Impl.zv_tree rfl rfl (fun w9 hb9 hg9 hs9 => ?_)
 refine wl_storeBAgg (vs := cs8) rfl rfl rfl (by rw [hlen8]; exact Impl.tz_tree) hone8 hb9 (by rw [hlen8]; rfl) (fun w10 hb10 hg10 hs10 => ?_)
 have hw810 : Below w8.heap.size w8 w10 := (below_of hg9 (Nat.le_refl _) (by simp)).trans (below_of hg10 (by omega) (by intro q hq; simp at hq; omega))
 have hz810 := hw810.size
 have hz7 := hw7.size
 have hw10 := hw8.trans (hw810.mono (by omega))
 have hw610 : Below w6.heap.size w6 w10 := (hw67.trans (hw78.mono (by omega))).trans (hw810.mono (by omega))
 have hw110 := hw16.trans (hw610.mono (by omega))
 have hb610 := hb6.below hw610 hb6.lt
 have hr10 : Rep (Lo w10.heap.size) w10 (treeD T) cs8 := Rep.below hr8 hw810 hz810
 repeat first|(with_reducible first|apply wc_seq|apply wl_nil|apply qk_thn)|((with_reducible apply ws);exact rfl;exact rfl)
 refine wc_par [(0, .bool true), (1, .bool true), (2, .pointer (some ⟨w4.heap.size, 0 + 0, none⟩)), (3, .slice fa (m.fields.map fldD).length fc), (4, .agg cs8.toArray)] [8, 7, 6, 5]
  (fun vals w' => Below w10.heap.size w10 w' ∧ match vals with
   | [] => True
   | [v5] => ∃ cs : List Value, v5 = .agg cs.toArray ∧ Rep (In w10.heap.size w10.heap.size w') w' (treeD T) cs
   | v :: _ => v = .bool true)
  mixed rfl rfl rfl rfl rfl (by show ([0,1,2,3,4] : List Nat).Nodup; decide) rfl rfl (by decide) rfl rfl rfl rfl ⟨(Below.refl _ w10).drew, trivial⟩ ?_ ⟨?_, ?_, ?_, ?_, trivial⟩ ?_
 ·intro p hp vals w' hC a k
  simp only [List.mem_cons, List.not_mem_nil, or_false] at hp
  rcases hp with rfl | rfl | rfl | rfl | rfl
  ·exact gv rfl rfl (rn_move k rfl)
  ·exact gv rfl rfl (rn_move k rfl)
  ·exact gv_yes rfl rfl rfl k rfl rfl (rn_fieldAddr k rfl fo_msg0)
  ·exact gv_yes rfl rfl rfl k rfl rfl (rn_load k rfl to_flds ((hb610.below hC.1 (by omega)).cell0 (i := 0) rfl))
  ·exact gv_yes rfl rfl rfl k rfl rfl (rn_loadBAgg k rfl (by rw [hlen8]; exact Impl.ta_tree) (hb10.below hC.1 (by omega)))
 ·rintro vals w' hvl ⟨hb', hC⟩ a k
  match vals, hvl with
  | [v7, v6, v5], _ => exact ⟨_, rfl, does_assign k rfl ⟨hb', hC⟩⟩
 ·rintro vals w' hvl ⟨hb', hC⟩ a k
  match vals, hvl with
  | [v6, v5], _ =>
   simp only [] at hC
   subst hC
   exact ⟨_, rfl, does_pick (b := true) (v := .bool true) k rfl rfl ⟨hb', rfl⟩⟩
 ·rintro vals w' hvl ⟨hb', hC⟩ a k
  match vals, hvl with
  | [v5], _ =>
   obtain ⟨cs, rfl, hr⟩ := hC
   have hz' := hb'.size
   refine ⟨_, rfl, does_call k rfl (by kernel_rfl) ((fn_defaults m.fields (by decide) T w'.heap.size w' _ _ (Nat.le_refl _) (hsq.below ((hw46.trans (hw610.mono (by omega))).trans (hb'.mono (by omega))) (by omega)) (hr.up (fun r hr => hr.2) (fun _ _ => rfl)) hdf8).mono ?_)⟩
   rintro e w'' ⟨v, rfl, hb'', rfl⟩
   exact ⟨_, rfl, hb'.trans (hb''.mono hb'.size), rfl⟩
 ·rintro vals w' hvl ⟨hb', hC⟩ a k
  match vals, hvl with
  | [], _ =>
   have hz' := hb'.size
   refine ⟨_, rfl, does_call k rfl (by kernel_rfl) ((Got.got_ok T w10.heap.size w' _ hsm8 hz' (Rep.below hr10 hb' (Nat.le_refl _))).mono ?_)⟩
   rintro e w'' ⟨v, rfl, hb'', cs, rfl, hr⟩
   exact ⟨_, rfl, hb'.trans (hb''.mono hb'.size), cs, rfl, hr.up (fun r hr => ⟨hr.1.imp (fun h => h) (fun h => by omega), hr.2⟩) (fun _ _ => rfl)⟩
 ·rintro vals w' hvl ⟨hb', hC⟩
  match vals, hvl with
  | [v8, v7, v6, v5], _ =>
   simp only [] at hC
   subst hC
   refine qk_thn ?_
   repeat (with_reducible apply wc_ret)
   exact qk_ret1 rfl rfl ⟨_, rfl, hw10.trans (hb'.mono hw10.size), rfl⟩
end
end Go.Proofs.YtlmnaffhadeolaaGreatDoor.BMetadataResponse

namespace Go.Proofs.YtlmnaffhadeolaaGreatDoor
open Go Go.RowKit Go.ChangeShapes Go.WideShapes Go.ChangeAt
theorem row_at {W : World} {a : Addr} {sz len : Nat} {f : Nat → List Value} (hsz : 0 < sz) (hlen : 0 < len)
  (hf : ∀ i, i < len → (f i).length = sz ∧ ∀ j v, (f i)[j]? = some v → W.cell? ((a.add (i * sz)).add j) = some v) :
  ∃ b off, a = ⟨b, off, none⟩ ∧ b < W.heap.size ∧ CellsAt W b off ((List.range len).flatMap f) := by
 have h0 := hf 0 hlen
 obtain ⟨b, off, spot⟩ := a
 have hx : ∃ v, (f 0)[0]? = some v := by
  cases hv : (f 0)[0]? with
  | none => rw [List.getElem?_eq_none_iff] at hv; omega
  | some v => exact ⟨v, rfl⟩
 obtain ⟨v0, hv0⟩ := hx
 have hc0 := h0.2 0 v0 hv0
 have hspot : spot = none := by simpa [Addr.add] using World.cell?_spot hc0
 subst hspot
 simp only [Nat.zero_mul] at hc0
 have hadd : ∀ n m, (Addr.add (Addr.add ⟨b, off, none⟩ n) m) = ⟨b, off + n + m, none⟩ := fun n m => by rw [add_plain ⟨b, off, none⟩ n rfl]; rw [add_plain _ _ rfl]
 rw [hadd] at hc0
 have hobj : ∃ arr e fz, W.heap[b]? = some (.cells arr e fz) := by
  unfold World.cell? at hc0
  split at hc0
  ·rename_i c e fz hh; exact ⟨c, e, fz, hh⟩
  ·cases hc0
 obtain ⟨arr, e, fz, hh⟩ := hobj
 have hall : ∀ i j v, i < len → (f i)[j]? = some v → arr[off + i * sz + j]? = some v := by
  intro i j v hi hv
  have := (hf i hi).2 j v hv
  rw [hadd] at this
  simpa [World.cell?, hh] using this
 have hflat : ∀ n, n ≤ len → ((List.range n).flatMap f).length = n * sz ∧ ∀ q v, ((List.range n).flatMap f)[q]? = some v → arr[off + q]? = some v := by
  intro n
  induction n with
  | zero => intro _; simp
  | succ n ih =>
   intro hn
   obtain ⟨hl, hq⟩ := ih (by omega)
   rw [List.range_succ, List.flatMap_append]
   simp only [List.flatMap_cons, List.flatMap_nil, List.append_nil]
   refine ⟨by rw [List.length_append, hl, (hf n (by omega)).1, Nat.succ_mul], fun q v hv => ?_⟩
   by_cases hlt : q < n * sz
   ·rw [List.getElem?_append_left (by omega)] at hv; exact hq q v hv
   ·rw [List.getElem?_append_right (by omega), hl] at hv
    have := hall n (q - n * sz) v (by omega) hv
    rwa [show off + n * sz + (q - n * sz) = off + q from by omega] at this
 obtain ⟨hl, hq⟩ := hflat len (Nat.le_refl _)
 refine ⟨b, off, rfl, (Array.getElem?_eq_some_iff.1 hh).1, arr, e, fz, hh, ?_, hq⟩
 have hpos : 0 < len * sz := Nat.mul_pos hlen hsz
 have hlast : ∃ v, ((List.range len).flatMap f)[len * sz - 1]? = some v := by
  cases hv : ((List.range len).flatMap f)[len * sz - 1]? with
  | none => rw [List.getElem?_eq_none_iff] at hv; omega
  | some v => exact ⟨v, rfl⟩
 obtain ⟨v, hv⟩ := hlast
 have := (Array.getElem?_eq_some_iff.1 (hq _ v hv)).1
 rw [hl]; omega
theorem sum_le : ∀ (a b : List Nat), a.length = b.length → (∀ i (h : i < a.length) (h' : i < b.length), a[i] ≤ b[i]) → a.sum ≤ b.sum
 | [], b, _, _ => by simp
 | x :: a, [], h, _ => by simp at h
 | x :: a, y :: b, h, hall => by
  have h0 := hall 0 (by simp) (by simp)
  have h1 := sum_le a b (by simpa using h) (fun i hi hi' => by have := hall (i + 1) (by simpa using hi) (by simpa using hi'); simpa using this)
  simp only [List.getElem_cons_zero] at h0
  simp only [List.sum_cons]; omega
section
variable {H : Type} {enc : TypeId × Value → H} {P : Program} {W : World} {base : Nat} {spare : Nat → Bool} {held : Bool}
theorem open_sq {α : Type} {t e sz : Nat} (ht : P.underlying t = some (.slice e)) (hc : P.cellsOf e = sz) (hsz : 0 < sz) (g : α → D) (φ : α → Prop) (f0 : α → Nat) (bk : DataW H → Nat) (hnil : 1 ≤ bk .nil) (hsl : ∀ es sp : List (DataW H), (es.map bk).sum + 1 ≤ bk (.slice es sp)) {fuel : Nat} {cs : List Value} {x : DataW H × List MemPlace}
  (h : DataW.trod enc P W base spare held fuel t cs = some x)
  (hel : ∀ n cs' x', n < fuel → DataW.trod enc P W base spare held n e cs' = some x' → ∃ y : α, Rep (Lo W.heap.size) W (g y) cs' ∧ φ y ∧ f0 y ≤ bk x'.1) :
  ∃ (l : List α) (v : Value), cs = [v] ∧ l.length ≤ maxLen ∧ Sq W.heap.size W v (l.map g) ∧ (∀ y ∈ l, φ y) ∧ (l.map f0).sum + 1 ≤ bk x.1 := by
 rcases DataW.trod_slice ht h with ⟨rfl, rfl⟩ | ⟨a, len, cap, elems, rest, n, hfu, rfl, rfl, hb, hle, hcap, hlen, hels, _, _⟩
 ·exact ⟨[], _, rfl, by simp, rep_nil _ _, by simp, by simpa using hnil⟩
 ·have hone : ∀ i : Fin len, ∃ p : List Value × α, W.cells? base (a.add (i.1 * sz)) sz = some p.1 ∧ Rep (Lo W.heap.size) W (g p.2) p.1 ∧ φ p.2 ∧ f0 p.2 ≤ bk (elems[i.1]'(by have := i.2; omega)).1 := by
   intro ⟨i, hi⟩
   have h1 := hels i hi
   rw [List.getElem?_eq_getElem (by omega), hc] at h1
   obtain ⟨cs', h2, h3⟩ := Option.bind_eq_some_iff.1 h1
   obtain ⟨y, hy, hφ⟩ := hel n cs' _ (by omega) h3
   exact ⟨(cs', y), h2, hy, hφ⟩
  let F : Fin len → List Value × α := fun i => Classical.choose (hone i)
  have hF : ∀ i : Fin len, W.cells? base (a.add (i.1 * sz)) sz = some (F i).1 ∧ Rep (Lo W.heap.size) W (g (F i).2) (F i).1 ∧ φ (F i).2 ∧ f0 (F i).2 ≤ bk (elems[i.1]'(by have := i.2; omega)).1 := fun i => Classical.choose_spec (hone i)
  let f : Nat → List Value := fun i => if hi : i < len then (F ⟨i, hi⟩).1 else []
  let l : List α := List.ofFn fun i => (F i).2
  have hll : l.length = len := by simp [l]
  have hφ : ∀ y ∈ l, φ y := by
   intro y hy
   obtain ⟨i, hi⟩ := (List.mem_ofFn).1 hy
   rw [← hi]; exact (hF i).2.2.1
  have hsum : (l.map f0).sum + 1 ≤ bk (.slice (elems.map (·.1)) (rest.map (·.1))) := by
   refine Nat.le_trans (Nat.succ_le_succ (sum_le (l.map f0) ((elems.map (·.1)).map bk) (by simp [hll, hlen]) (fun i hi hi' => ?_))) (hsl _ _)
   have hi2 : i < len := by simpa [hll] using hi
   have := (hF ⟨i, hi2⟩).2.2.2
   simpa [l] using this
  refine ⟨l, _, rfl, by rw [hll]; omega, ?_, hφ, hsum⟩
  simp only [Sq, Rep]
  refine ⟨some a, cap, by simp [hll], by simpa [hll] using hle, ?_⟩
  by_cases hpos : 0 < len
  ·have hfi : ∀ i, i < len → (f i).length = sz ∧ ∀ j v, (f i)[j]? = some v → W.cell? ((a.add (i * sz)).add j) = some v := by
    intro i hi
    have h1 := (hF ⟨i, hi⟩).1
    have h2 := World.cells?_some h1
    simp only [f, dif_pos hi]
    refine ⟨h2.2.1, fun j v hj => ?_⟩
    have := h2.2.2 j (by have := (List.getElem?_eq_some_iff.1 hj).1; omega)
    rw [this]; exact hj
   obtain ⟨b, off, rfl, hlt, hcells⟩ := row_at hsz hpos hfi
   refine .inr ⟨b, off, _, rfl, hlt, hcells, ?_⟩
   have hreps : ∀ n, n ≤ len → Reps (Lo W.heap.size) W ((l.take n).map g) ((List.range n).flatMap f) := by
    intro n
    induction n with
    | zero => intro _; simp [Reps]
    | succ n ih =>
     intro hn
     have hnl : n < l.length := by omega
     rw [List.take_succ_eq_append_getElem hnl, List.map_append, List.range_succ, List.flatMap_append]
     refine (Reps.app _ _ _).2 ⟨_, _, rfl, ih (by omega), ?_⟩
     simp only [List.map_cons, List.map_nil, List.flatMap_cons, List.flatMap_nil, List.append_nil, Reps]
     refine ⟨f n, [], by simp, ?_, rfl⟩
     have hln : l[n] = (F ⟨n, by omega⟩).2 := by simp [l]
     have hfn : f n = (F ⟨n, by omega⟩).1 := by simp only [f]; rw [dif_pos (by omega)]
     rw [hln, hfn]; exact (hF ⟨n, by omega⟩).2.1
   have := hreps len (Nat.le_refl _)
   rwa [List.take_of_length_le (by omega)] at this
  ·have : l = [] := List.length_eq_zero_iff.1 (by omega)
   left; rw [this]; rfl
end
end Go.Proofs.YtlmnaffhadeolaaGreatDoor

namespace Go.Proofs.YtlmnaffhadeolaaGreatDoor
open Go Go.RowKit Go.ChangeShapes Go.WideShapes Go.ChangeAt
theorem co_i64 : Tryz.prog.cellsOf 2 = 1 := by kernel_rfl
theorem co_u8 : Tryz.prog.cellsOf 5 = 1 := by kernel_rfl
theorem co_u32 : Tryz.prog.cellsOf 77 = 1 := by kernel_rfl
theorem co_bool : Tryz.prog.cellsOf 4 = 1 := by kernel_rfl
theorem co_bytes : Tryz.prog.cellsOf 22 = 1 := by kernel_rfl
theorem co_trees : Tryz.prog.cellsOf 23 = 1 := by kernel_rfl
theorem co_tags : Tryz.prog.cellsOf 24 = 1 := by kernel_rfl
theorem co_tree : Tryz.prog.cellsOf 26 = 5 := by kernel_rfl
theorem co_tag : Tryz.prog.cellsOf 79 = 2 := by kernel_rfl
theorem len2 {α : Type} {l : List α} (h : l.length = 2) : ∃ a b, l = [a, b] := by
 match l, h with
 | [a, b], _ => exact ⟨a, b, rfl⟩
theorem len5 {α : Type} {l : List α} (h : l.length = 5) : ∃ a b c d e, l = [a, b, c, d, e] := by
 match l, h with
 | [a, b, c, d, e], _ => exact ⟨a, b, c, d, e, rfl⟩
section
set_option maxRecDepth 100000
variable {H : Type} {enc : TypeId × Value → H} {W : World} {base : Nat} {spare : Nat → Bool} {held : Bool}
theorem bk_all {l : List (DataW H)} : Rows.uptoBulkAll l = (l.map Rows.uptoBulk).sum := by
 induction l with
 | nil => rfl
 | cons x l ih => simp only [Rows.uptoBulkAll, List.map_cons, List.sum_cons, ih]
theorem bk_sl (es sp : List (DataW H)) : (es.map Rows.uptoBulk).sum + 1 ≤ Rows.uptoBulk (.slice es sp) := by
 simp only [Rows.uptoBulk, bk_all]; omega
theorem bk_agg (es : List (DataW H)) : (es.map Rows.uptoBulk).sum + 1 ≤ Rows.uptoBulk (.agg es) := by
 simp only [Rows.uptoBulk, bk_all]; omega
theorem bk_int (k : IntKind) (n : Int) : 1 ≤ Rows.uptoBulk (H := H) (.lit (.int k n)) := by simp [Rows.uptoBulk]
theorem bk_nil : 1 ≤ Rows.uptoBulk (H := H) .nil := by simp [Rows.uptoBulk]
theorem wts_sum (l : List Tree) : Tree.wts l = (l.map Tree.wt).sum := by
 induction l with
 | nil => rfl
 | cons x l ih => simp only [Tree.wts, List.map_cons, List.sum_cons, ih]
theorem ones_sum {α : Type} (l : List α) : (l.map fun _ => 1).sum = l.length := by
 induction l with
 | nil => rfl
 | cons x l ih => simp only [List.map_cons, List.sum_cons, List.length_cons, ih]; omega
theorem open_bytes {fuel : Nat} {cs : List Value} {x : DataW H × List MemPlace} (h : DataW.trod enc Tryz.prog W base spare held fuel 22 cs = some x) :
  ∃ (s : List UInt8) (v : Value), cs = [v] ∧ s.length ≤ maxLen ∧ Sq W.heap.size W v (s.map byteD) ∧ s.length + 1 ≤ Rows.uptoBulk x.1 := by
 obtain ⟨l, v, h1, h2, h3, _, h5⟩ := open_sq (e := 5) (sz := 1) Tryz.underlying22 co_u8 (by omega) byteD (fun _ => True) (fun _ => 1) Rows.uptoBulk bk_nil bk_sl h (fun n cs' x' _ hx => by
  obtain ⟨m, rfl, hxe, hw⟩ := DataW.trod_int Tryz.underlying5 hx
  have hm : 0 ≤ m ∧ m ≤ 255 := by simpa [Lit.wf, IntKind.min, IntKind.max, IntKind.signed, IntKind.bits] using hw
  refine ⟨UInt8.ofNat m.toNat, ?_, trivial, by rw [hxe]; exact bk_int _ _⟩
  simp only [byteD, Rep]
  rw [byteNat _ (by omega)]
  congr 2
  omega)
 rw [ones_sum] at h5
 exact ⟨l, v, h1, h2, h3, h5⟩
theorem open_tags {fuel : Nat} {cs : List Value} {x : DataW H × List MemPlace} (h : DataW.trod enc Tryz.prog W base spare held fuel 24 cs = some x) :
  ∃ (u : List (Nat × List UInt8)) (v : Value), cs = [v] ∧ u.length ≤ maxLen ∧ Sq W.heap.size W v (u.map tagD) ∧ (∀ kv ∈ u, kv.1 < 4294967296) ∧ tagsW u + 1 ≤ Rows.uptoBulk x.1 := by
 refine open_sq (e := 79) (sz := 2) Tryz.underlying24 co_tag (by omega) tagD (fun kv => kv.1 < 4294967296) (fun kv => kv.2.length + 1) Rows.uptoBulk bk_nil bk_sl h (fun n cs' x' _ hx => ?_)
 obtain ⟨xs, k, _, rfl, hl, hlen, hf⟩ := DataW.trod_struct Tryz.underlying79 hx
 rw [co_tag] at hl
 obtain ⟨v0, v1, rfl⟩ := len2 hl
 ·have hxl : xs.length = 2 := hlen
  have h0 := hf 0 _ rfl
  have h1 := hf 1 _ rfl
  rw [List.getElem?_eq_getElem (by omega)] at h0 h1
  simp [co_u32, co_bytes] at h0 h1
  obtain ⟨m, hv0, _, hw⟩ := DataW.trod_int Tryz.underlying77 h0
  obtain ⟨s, v, hv1, _, hs, hsb⟩ := open_bytes h1
  have hm : 0 ≤ m ∧ m ≤ 4294967295 := by simpa [Lit.wf, IntKind.min, IntKind.max, IntKind.signed, IntKind.bits] using hw
  simp only [List.cons.injEq, and_true] at hv0 hv1
  subst hv0; subst hv1
  refine ⟨(m.toNat, s), ?_, by simp only []; omega, ?_⟩
  rotate_left
  ·obtain ⟨a, b, rfl⟩ := len2 hxl
   ·have := bk_agg [a.1, b.1]
    simp only [List.map_cons, List.map_nil, List.sum_cons, List.sum_nil, List.getElem_cons_succ, List.getElem_cons_zero] at this hsb ⊢
    omega
  have : (.int .u32 m : Value) = .int .u32 ((m.toNat : Nat) : Int) := by congr 1; omega
  rw [this]
  exact rep_tag hs
theorem open_tree : ∀ (fuel : Nat) (cs : List Value) (x : DataW H × List MemPlace), DataW.trod enc Tryz.prog W base spare held fuel 26 cs = some x →
  ∃ t : Tree, Rep (Lo W.heap.size) W (treeD t) cs ∧ t.ok ∧ t.wt ≤ Rows.uptoBulk x.1 := by
 intro fuel
 induction fuel using Nat.strongRecOn with
 | _ fuel ih =>
  intro cs x h
  obtain ⟨xs, k, hfu, rfl, hl, hlen, hf⟩ := DataW.trod_struct Tryz.underlying26 h
  rw [co_tree] at hl
  obtain ⟨v0, v1, v2, v3, v4, rfl⟩ := len5 hl
  ·have hxl : xs.length = 5 := hlen
   have h0 := hf 0 _ rfl
   have h1 := hf 1 _ rfl
   have h2 := hf 2 _ rfl
   have h3 := hf 3 _ rfl
   have h4 := hf 4 _ rfl
   rw [List.getElem?_eq_getElem (by omega)] at h0 h1 h2 h3 h4
   simp [co_i64, co_bytes, co_bool, co_trees, co_tags] at h0 h1 h2 h3 h4
   obtain ⟨n, hv0, hb0, hw0⟩ := DataW.trod_int Tryz.underlying2 h0
   obtain ⟨s, sv, hv1, hsl, hs, hb1⟩ := open_bytes h1
   obtain ⟨b, hv2, hb2⟩ := DataW.trod_bool Tryz.underlying4 h2
   obtain ⟨l, lv, hv3, _, hl3, hok, hb3⟩ := open_sq (e := 26) (sz := 5) Tryz.underlying23 co_tree (by omega) treeD (fun t => t.ok) Tree.wt Rows.uptoBulk bk_nil bk_sl h3 (fun n cs' x' hn hx => ih n (by omega) cs' x' hx)
   obtain ⟨u, uv, hv4, _, hu, huk, hb4⟩ := open_tags h4
   simp only [List.cons.injEq, and_true] at hv0 hv1 hv2 hv3 hv4
   subst hv0; subst hv1; subst hv2; subst hv3; subst hv4
   refine ⟨.mk n s b l u, rep_tree hs hl3 hu, ?_, ?_⟩
   rotate_left
   ·obtain ⟨a0, a1, a2, a3, a4, rfl⟩ := len5 hxl
    ·have := bk_agg [a0.1, a1.1, a2.1, a3.1, a4.1]
     simp only [List.map_cons, List.map_nil, List.sum_cons, List.sum_nil, List.getElem_cons_succ, List.getElem_cons_zero] at this hb0 hb1 hb2 hb3 hb4 ⊢
     simp only [Tree.wt, wts_sum]
     omega
   simp only [Tree.ok]
   refine ⟨by simp only [maxLen] at hsl; omega, huk, ?_, by simpa [Lit.wf, IntKind.min, IntKind.max, IntKind.signed, IntKind.bits] using hw0⟩
   have : ∀ l : List Tree, (∀ t ∈ l, t.ok) → Tree.oks l := by
    intro l
    induction l with
    | nil => intro _; simp [Tree.oks]
    | cons y l ih2 => intro h; simp only [Tree.oks]; exact ⟨h y (by simp), ih2 (fun t ht => h t (by simp [ht]))⟩
   exact this l hok
end
end Go.Proofs.YtlmnaffhadeolaaGreatDoor

namespace Go.Proofs.YtlmnaffhadeolaaGreatDoor.BMetadataResponse
open Go Go.RowKit Go.ChangeShapes Go.WideShapes Go.ChangeAt
theorem own : ownKnob Tryz.prog.godebug = none := by kernel_rfl
theorem laidOut : laidOutB Tryz.prog = true := by kernel_rfl
theorem gErr : Tryz.prog.globalNamed "pub-mailsack/pub/kmsg/inner/kbin.ErrNotEnoughData" = some 1 := by kernel_rfl
theorem gErrT : (Tryz.prog.globals[(1 : Nat)]?).map (·.type) = some 68 := by kernel_rfl
theorem err_of_laid {W : World} (h : laidMetH Tryz.prog Rows.fnDefaultMetadataResponseRow.laid W) : ∃ ev, W.cell? ⟨1, 0, none⟩ = some ev := by
  have h' : laidMet Tryz.prog Rows.fnDefaultMetadataResponseRow.laid W := h
  obtain ⟨ps, ⟨g0, t0, cs0, f0, p0, q0, hg0, ht0, hv0, hd0, _⟩, _⟩ := h'
  obtain rfl := Option.some.inj (gErr.symm.trans hg0)
  obtain rfl := Option.some.inj (gErrT.symm.trans ht0)
  obtain ⟨l0⟩ := cs0
  obtain ⟨fu, u, v, e, _, _⟩ := iface_of_trod Tryz.underlying68 hd0
  have e' : l0 = [.iface u v] := e
  subst e'
  exact ⟨_, by simpa using World.var?_cell hg0 hv0 0⟩
abbrev errText : ByteArray := ⟨#[114, 101, 115, 112, 111, 110, 115, 101, 32, 100, 105, 100, 32, 110, 111, 116, 32, 99, 111, 110, 116, 97, 105, 110, 32, 101, 110, 111, 117, 103, 104, 32, 100, 97, 116, 97, 32, 116, 111, 32, 98, 101, 32, 118, 97, 108, 105, 100]⟩
noncomputable def low : Nat := (World.holding Tryz.prog default ⟨#[], #[], []⟩).heap.size
noncomputable def laidWorld (os : Os) : World :=
  let w0 := World.holding Tryz.prog os ⟨#[.cells #[.string errText] 241], #[], []⟩
  { w0 with heap := w0.heap.modify 1 fun
      | .cells _ t frozen => .cells #[.iface 223 (.pointer (some ⟨low, 0, none⟩))] t frozen
      | o => o }
theorem laidWorld_met (os : Os) (args : Array Value) : laidMetH Tryz.prog Rows.fnDefaultMetadataResponseRow.laid ((laidWorld os).forCall (fun _ _ => 0) ⟨#[], args, []⟩).memory :=
  show laidMet Tryz.prog Rows.fnDefaultMetadataResponseRow.laid _ from laidMet_of_run' 8 (by kernel_rfl) (by kernel_rfl)
theorem reads (os : Os) {H : Type} (enc : TypeId × Value → H) : ∃ places, DataW.whole enc Tryz.prog ((laidWorld os).forCall (fun _ _ => 0) ⟨#[], #[.int .u8 0, .agg #[.int .i64 0, .slice none 0 0, .bool false, .slice none 0 0, .slice none 0 0]], []⟩).memory Tryz.f6.params.toList Rows.fnDefaultMetadataResponseSpec.vars false #[Value.int .u8 0, .agg #[.int .i64 0, .slice none 0 0, .bool false, .slice none 0 0, .slice none 0 0]].toList 8 = some ([.lit (.int .u8 0), .agg [.lit (.int .i64 0), .nil, .lit (.bool false), .nil, .nil]], [], places) := ⟨[], by kernel_rfl⟩
set_option maxRecDepth 100000 in
theorem lifted (os : Os) (started : os.Started) (H : Type) (enc : TypeId × Value → H) (F : Stop.Interp) :
    ReturnsInHanded {} Tryz.checked os 6 .any ((Rows.OpenSpec.upto Rows.fnDefaultMetadataResponseSpec).preRow enc Tryz.prog Tryz.f6 Rows.fnDefaultMetadataResponseUptoRow.domain false Rows.fnDefaultMetadataResponseUptoRow.laid) (((Rows.OpenSpec.upto Rows.fnDefaultMetadataResponseSpec).at F).post enc Tryz.prog Tryz.f6 false true false false) := by
  obtain ⟨places, hx⟩ := reads os enc
  refine returnsInHanded_of_row (C := Tryz.checked) (s := Rows.OpenSpec.upto Rows.fnDefaultMetadataResponseSpec) own started (by kernel_rfl) Tryz.func6
    (witness_row_atRef (enc := enc) (C := Tryz.checked) false (laidWorld os) #[.int .u8 0, .agg #[.int .i64 0, .slice none 0 0, .bool false, .slice none 0 0, .slice none 0 0]] rfl (by kernel_rfl) (by kernel_rfl) (by kernel_rfl)
      (OpenSpec.preRow_of_cond 8 hx (by kernel_rfl) (fun k hk => by cases hk; kernel_rfl) (by kernel_rfl) (laidWorld_met os _))) ?_
  intro W base args ds gs before hval0 hW _ hcond _ hL _ _
  have hsmall := of_decide_eq_true (hcond _ rfl)
  suffices key : Calls Tryz.prog 6 args W fun e W' => ∃ v, e = .returned v ∧ Rows.fnDefaultMetadataResponseSpec.post enc Tryz.prog Tryz.f6 false true false false W args v W' from key
  have hval : ∀ (j : Nat) t v, Tryz.f6.params[j]? = some t → args[j]? = some v → Value.okWide Tryz.prog W .any base t v := hval0
  have hW' := hW
  obtain ⟨p, q, hA0, hV, rfl, hfz, hnd⟩ := hW
  have hA : DataW.TrodAll enc Tryz.prog W 0 (fun _ => true) true Tryz.f6.params.toList args.toList ds p := hA0
  rw [Tryz.params6] at hA hval
  obtain ⟨v0, v1, d0, d1, p0, p1, rfl, rfl, rfl, h0, h1⟩ := trodAll_two hA
  obtain ⟨rfl, rfl⟩ := trodVars_none hV
  obtain ⟨a, rfl, rfl, rfl, wa⟩ := open_int Tryz.underlying5 (hval 0 5 v0 rfl rfl) h0
  have hv1 := hval 1 26 v1 rfl rfl
  unfold Value.okWide at hv1
  rw [Tryz.underlying26] at hv1
  obtain ⟨cs, rfl, _⟩ := hv1
  obtain ⟨fuel, hfu⟩ := id h1
  obtain ⟨t, hrep, hok, hwt⟩ := open_tree fuel _ _ hfu
  obtain ⟨ev, hev⟩ := err_of_laid hL
  clear hA0 hval0
  simp only [List.append_nil, List.nil_append] at hW'
  have ha : 0 ≤ a ∧ a ≤ 255 := by simpa [Lit.wf, IntKind.min, IntKind.max, IntKind.signed, IntKind.bits] using wa
  have hsm : t.wt ≤ 1048576 := by simp only [List.append_nil, List.cons_append, List.nil_append, Rows.uptoBulkAll] at hsmall; simp only [] at hwt; omega
  have hlaw := fn_law a.toNat (by omega) t hok hsm W ev cs.toList hrep hev
  rw [show ((a.toNat : Nat) : Int) = a from by omega] at hlaw
  simp only [Array.toArray_toList] at hlaw
  refine Calls.mono hlaw fun e W' he => ?_
  obtain ⟨v, rfl, hb, rfl⟩ := he
  refine ⟨_, rfl, _, _, _, [], p1, [], hW', trodAll_mk1 (shut_bool Tryz.underlying4 _), ?_, ?_, hb.frame _, fun h => by cases h⟩
  · exact trodAll_mk2 (shut_int Tryz.underlying5 wa) (Below.trod laidOut (by kernel_rfl) (Nat.le_of_ble_eq_true (by kernel_rfl)) h1 hb (fun x hx => hW'.lt x hx))
  · rfl
theorem said : Rows.FnDefaultMetadataResponseUptoSaid :=
  OpenClaim.holds_of_cond 6 Tryz.f6 rfl rfl rfl rfl rfl rfl rfl ⟨rfl, rfl, rfl, rfl, rfl⟩ rfl rfl rfl rfl rfl (by kernel_rfl) Tryz.func6 (by kernel_rfl)
    (of_decide_eq_true (by kernel_rfl)) (by unfold Func.isWrapper; first | (rw [if_pos (by decide +kernel)]; kernel_rfl) | (rw [if_neg (by decide +kernel)]; exact ⟨rfl, rfl⟩))
    (fun os started H enc _ F => by rw [OpenClaim.pre_eq_preRow]; exact lifted os started H enc F)
theorem row_tie : Rows.fnDefaultMetadataResponseUptoRow.laidByTextAt .later Tryz.pinned [.sentinel] true :=
  OpenClaim.laidByTextAt_later rfl rfl tie (by kernel_rfl)
theorem holds : Rows.FnDefaultMetadataResponseUptoCardSaid :=
  Claim7.holds_tied_plain_at .later [] [.sentinel] true (true, "951202c2ee62a2485c2c11205be3cb855fe0e9b9b0ed7893dd37afa4e79e5067") false
    said (fun _ h => by cases h) (by kernel_rfl) (fun _ h => by cases h) row_tie rfl ⟨rfl, rfl⟩ (by kernel_rfl) rfl
    (fun f fn hf hfn => by
      obtain rfl : f = 6 := Option.some.inj ((show Tryz.prog.funcNamed "pub-mailsack/laws.FnDefaultMetadataResponse" = some 6 by kernel_rfl).symm.trans hf) |>.symm
      obtain rfl : fn = Tryz.f6 := (Option.some.inj (Tryz.func6.symm.trans hfn)).symm
      exact ⟨by kernel_rfl, fun j t ht => by
        rw [Tryz.params6] at ht
        have hh : Tryz.prog.wantsStandIn 5 = false ∧ Tryz.prog.wantsStandIn 26 = false := ⟨by kernel_rfl, by kernel_rfl⟩
        match j, ht with
        | 0, ht => obtain rfl : 5 = t := by simpa using ht
                   exact hh.1
        | 1, ht => obtain rfl : 26 = t := by simpa using ht
                   exact hh.2
        | j + 2, ht => simp at ht⟩)
    (by kernel_rfl)
end Go.Proofs.YtlmnaffhadeolaaGreatDoor.BMetadataResponse
