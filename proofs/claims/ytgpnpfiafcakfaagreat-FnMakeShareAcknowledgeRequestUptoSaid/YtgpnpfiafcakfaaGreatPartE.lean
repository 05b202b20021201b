/- A part of the proof of FnMakeShareAcknowledgeRequestUptoSaid: what its texts prove stands at the head of each. Conditions: those that each theorem names. -/
import Derived.Test.YtgpnpfiafcakfaaGreatPartD
import Derived.Test.YtgpnpfiafcakfaaGreatPartC
import Derived.ScopeJumps
import Derived.Laws.BytesString
import Derived.Carry
import Derived.Test.YtgpnpfiafcakfaaGreatPartA
import Derived.Test.YtgpnpfiafcakfaaGreatProg
import Derived.Shelf.GgSortFunc.Whole
import Derived.Shelf.GgSortFunc.Tiny
import Derived.Ground.GgsProg
import Derived.Test.YtgpnpfiafcakfaaGreatPartB
import Derived.Deep.QuietTactic
import Derived.Sort.LotA
set_option linter.all false
namespace Go.Proofs.YtgpnpfiafcakfaaGreat.Rdk
open Go Go.RowKit
set_option maxRecDepth 100000
section
variable {P : Program} {Q : Exit → Act → World → Prop} {N : Nat} {L : Sl} {w : World}
end
end Go.Proofs.YtgpnpfiafcakfaaGreat.Rdk

namespace Go.Proofs.YtgpnpfiafcakfaaGreat.Rdk
open Go Go.RowKit
set_option maxRecDepth 100000
section
variable {P : Program} {ops : Array Oper} {Q : Exit → Act → World → Prop} {N : Nat} {rest : List Oper} {L : Sl} {w : World} {d : Nat} {ty : TypeId} {pos : String} {aft : Array Edge}
theorem wl_extract {x : Operand} {i : Nat} {cs : Array Value} {v : Value} (hx : ev L x = some (.tuple cs)) (hv : cs[i]? = some v) (hd : Nat.blt d N = true) (h : WL rest P ops Q N ((d, v) :: L) w) : WL (⟨some d, .extract x i, ty, pos, aft, none⟩ :: rest) P ops Q N L w := by
 intro a k
 refine st_of (o := ⟨some d, .extract x i, ty, pos, aft, none⟩) rfl ?_ (h _ (k.put _ hd))
 simp [execOp, k.eval hx, Instr.extract, hv]
end
end Go.Proofs.YtgpnpfiafcakfaaGreat.Rdk

namespace Go.Proofs.YtgpnpfiafcakfaaGreat.Rdk
open Go Go.RowKit
set_option maxRecDepth 100000
def preP (c : Bool) (s : List UInt8) : Option (Int × List UInt8) := if c then (uvarP s).map fun x => (IntKind.i32.wrap (IntKind.i32.wrap x.1 - 1), x.2) else intP .i32 4 s
def PreRel (c : Bool) (st : Option (List UInt8)) (m : Int) (st' : Option (List UInt8)) : Prop := match st with
 | none => st' = none
 | some s => match preP c s with
  | some x => st' = some x.2 ∧ m = x.1
  | none => st' = none
theorem len_ok {X : Prop} {c : Bool} {st st1 : Option (List UInt8)} {m : Int} {s1 : List UInt8} (h : PreRel c st m st1) (hv : (st1 = none ∧ s1 = [] ∧ X) ∨ st1 = some s1) (hlt : ¬ (s1.length : Int) < m) : LenRel c st m st1 := by
 unfold LenRel
 unfold PreRel at h
 cases st with
 | none => exact h
 | some s =>
  simp only [] at h ⊢
  have e : lenP c s = (preP c s).bind fun x => if (x.2.length : Int) < x.1 then none else some x := rfl
  rw [e]
  cases hx : preP c s with
  | none => rw [hx] at h; exact h
  | some x =>
   rw [hx] at h
   obtain ⟨rfl, rfl⟩ := h
   rcases hv with ⟨hv, _⟩ | hv
   ·cases hv
   ·simp only [Option.some.injEq] at hv
    subst hv
    simp only [Option.bind_some]
    rw [if_neg hlt]
    exact ⟨rfl, rfl⟩
theorem to_str : tyOne Tryz.prog 9 = true := by kernel_rfl
end Go.Proofs.YtgpnpfiafcakfaaGreat.Rdk

namespace Go.Proofs.YtgpnpfiafcakfaaGreat.Rdk
open Go Go.RowKit
set_option maxRecDepth 100000
end Go.Proofs.YtgpnpfiafcakfaaGreat.Rdk

namespace Go.Proofs.YtgpnpfiafcakfaaGreat.Rdk
open Go Go.RowKit
set_option maxRecDepth 100000
section
variable {P : Program} {ops : Array Oper} {Q : Exit → Act → World → Prop} {N : Nat} {rest : List Oper} {L : Sl} {w : World} {d : Nat} {ty : TypeId} {pos : String} {aft : Array Edge}
theorem wl_mapNil {x : Operand} {t u : TypeId} {m : Option Nat} (hx : ev L x = some (.map m)) (ht : (match P.underlying t with | some (.map _ _) => true | _ => false) = true) (hd : Nat.blt d N = true) (h : WL rest P ops Q N ((d, .bool m.isNone) :: L) w) :
  WL (⟨some d, .binOp .eql t x (.const (.map none)) u, ty, pos, aft, none⟩ :: rest) P ops Q N L w := by
 intro a k
 split at ht
 ·rename_i kt et hu
  refine st_of (o := ⟨some d, .binOp .eql t x (.const (.map none)) u, ty, pos, aft, none⟩) (v := .bool m.isNone) (w' := w) rfl ?_ (h _ (k.put _ hd))
  simp only [execOp, k.eval hx, eval_const]
  have h : ∀ d : Nat, (Op.equalIn (d + 1) t (.map m) (.map none)).run P w = .ok m.isNone w := fun d => by
   cases m <;> simp [Op.equalIn, run_underlying hu]
  simp only [eqGuard, binOp]
  simp [Op.equal, Op.maxDepth, h 9999]
 ·cases ht
theorem wl_makeMap {t : TypeId} (hd : Nat.blt d N = true) (h : WL rest P ops Q N ((d, .map (some w.heap.size)) :: L) (w.alloc (.map #[] 0))) : WL (⟨some d, .makeMap t none, ty, pos, aft, none⟩ :: rest) P ops Q N L w := by
 intro a k
 refine st_of (o := ⟨some d, .makeMap t none, ty, pos, aft, none⟩) (v := .map (some w.heap.size)) rfl ?_ (h _ (k.put _ hd))
 simp [execOp, run_makeMap]
theorem wl_mapUpd {x y z : Operand} {t : TypeId} {m kk v : Value} {w' : World} (hx : ev L x = some m) (hy : ev L y = some kk) (hz : ev L z = some v) (hr : (Instr.mapUpdate t m kk v).run P w = .ok () w') (h : WL rest P ops Q N L w') :
  WL (⟨none, .mapUpdate t x y z, ty, pos, aft, none⟩ :: rest) P ops Q N L w := by
 intro a k
 refine st_of_skip (o := ⟨none, .mapUpdate t x y z, ty, pos, aft, none⟩) (w' := w') rfl ?_ (h _ k)
 simp [execOp, k.eval hx, k.eval hy, k.eval hz, hr]
end
def tblT : Tbl := ⟨[(56, 0, 0)], []⟩
theorem tblT_ok : tblT.ok Tryz.prog = true := by kernel_rfl
theorem wt {ops : Array Oper} {Q : Exit → Act → World → Prop} {N : Nat} {rest : List Oper} {L : Sl} {w : World} {d : Nat} {ty : TypeId} {pos : String} {aft : Array Edge} {o : Op} {v : Value}
  (hs : stepOp tblT L o = some v) (hd : Nat.blt d N = true) (h : WL rest Tryz.prog ops Q N ((d, v) :: L) w) : WL (⟨some d, o, ty, pos, aft, none⟩ :: rest) Tryz.prog ops Q N L w := wl_step tblT tblT_ok hs hd h
theorem um : Tryz.prog.underlying 54 = some (.map 62 22) := by kernel_rfl
theorem uk : Tryz.prog.underlying 62 = some (.int .u32) := by kernel_rfl
theorem to_map : tyOne Tryz.prog 54 = true := by kernel_rfl
def TagsAt (w : World) (sb lo : Nat) (m : Value) (u : List (Nat × List UInt8)) : Prop := (m = .map none ∧ u = []) ∨ ∃ r, m = .map (some r) ∧ lo ≤ r ∧ TagMap w sb r u
theorem TagsAt.keep {w w' : World} {S : Nat → Prop} {sb lo : Nat} {m : Value} {u : List (Nat × List UInt8)} (h : TagsAt w sb lo m u) (hc : Chg S w w') (hr : ∀ r, lo ≤ r → r < w.heap.size → ¬ S r) (hs : ¬ S sb) (hsb : sb < w.heap.size) : TagsAt w' sb lo m u := by
 rcases h with h | ⟨r, rfl, hlo, ht⟩
 ·exact .inl h
 ·have hlt : r < w.heap.size := by
   obtain ⟨⟨es, clock, hb, _⟩, _⟩ := ht
   exact (Array.getElem?_eq_some_iff.1 hb).1
  exact .inr ⟨r, rfl, hlo, ht.keep hc (hr r hlo hlt) hs hsb⟩
theorem fn_set (w : World) (tb sb lo key : Nat) (val m : Value) (u : List (Nat × List UInt8)) (e : TypeId) (s : List UInt8) (hb : Box w tb [m] e) (ht : TagsAt w sb lo m u) (hv : SrcV w sb val s) (h1 : tb < lo) (h2 : sb < lo) (h3 : lo ≤ w.heap.size) (h4 : tb ≠ sb) :
  Calls Tryz.prog 31 #[.pointer (some ⟨tb, 0, none⟩), .int .u32 key, val] w fun en w' => en = .returned (.tuple #[]) ∧ ∃ m', Box w' tb [m'] e ∧ TagsAt w' sb lo m' (setTag key s u) ∧ Chg (fun j => j = tb ∨ lo ≤ j) w w' := by
 refine enter Tryz.func31 rfl Tryz.ntmps31 rfl ?_
 have upd : ∀ (w1 : World) (r : Nat) (u1 : List (Nat × List UInt8)), Box w1 tb [.map (some r)] e → lo ≤ r → TagMap w1 sb r u1 → SrcV w1 sb val s → sb < w1.heap.size → Chg (fun j => j = tb ∨ lo ≤ j) w w1 → setTag key s u1 = setTag key s u →
   ∃ w', (Instr.mapUpdate 54 (.map (some r)) (.int .u32 key) val).run Tryz.prog w1 = .ok () w' ∧ (∃ m', Box w' tb [m'] e ∧ TagsAt w' sb lo m' (setTag key s u) ∧ Chg (fun j => j = tb ∨ lo ≤ j) w w') := by
  intro w1 r u1 hb1 hr htm hv1 hsb hc heq
  obtain ⟨w', hrun, hc', _, ht'⟩ := run_tagSet um uk htm (by omega) hsb key hv1
  exact ⟨w', hrun, _, hb1.chg hc' (by show tb ≠ r; omega), .inr ⟨r, rfl, hr, by rw [← heq]; exact ht'⟩, hc.trans (hc'.wide (fun j hj => .inr (by have : j = r := hj; omega)))⟩
 rcases ht with ⟨rfl, rfl⟩ | ⟨r, rfl, hr, htm⟩
 ·refine wc_seq (wc_seq (wc_region ?_))
  refine wt rfl rfl ?_
  refine wt rfl rfl ?_
  refine wt rfl rfl ?_
  refine wl_loadB rfl to_map rfl hb rfl ?_
  refine wl_mapNil rfl (by kernel_rfl) rfl ?_
  refine wl_nil (qk_thn (wc_yes rfl rfl (wc_region ?_)))
  refine wt rfl rfl ?_
  refine wl_makeMap rfl ?_
  have hal : Chg (fun _ => False) w (w.alloc (.map #[] 0)) := chg_alloc w _ _
  have hnew := tagMap_new w sb
  have hb1 := hb.chg hal id
  have hs1 : (w.alloc (.map #[] 0)).heap.size = w.heap.size + 1 := by simp
  have hv1 := hv.chg hal id
  generalize w.alloc (.map #[] 0) = w1 at *
  refine wt rfl rfl ?_
  refine wt rfl rfl ?_
  refine wl_storeB rfl rfl to_map rfl hb1 rfl (fun w2 hb2 hg2 hs2 => ?_)
  have hc2 := Chg.grown hg2
  have hne : ∀ j : Nat, (fun j => j = tb) j → j ≠ w.heap.size := fun j hj => by have : j = tb := hj; omega
  obtain ⟨w3, hrun, m', hb3, ht3, hc3⟩ := upd w2 w.heap.size [] hb2 h3 (hnew.keep hc2 (fun e => by have : w.heap.size = tb := e; omega) (fun e => h4 e.symm) (by omega)) (hv1.chg hc2 (fun e => h4 e.symm)) (by omega) ((hal.wide (fun _ h => h.elim)).trans (hc2.wide (fun j hj => .inl hj))) rfl
  refine wl_nil (qk_thn (wc_region ?_))
  refine wt rfl rfl ?_
  refine wt rfl rfl ?_
  refine wt rfl rfl ?_
  refine wl_loadB rfl to_map rfl hb2 rfl ?_
  refine wt rfl rfl ?_
  refine wt rfl rfl ?_
  refine wl_mapUpd rfl rfl rfl hrun ?_
  exact wl_nil (qk_end0 rfl ⟨rfl, m', hb3, ht3, hc3⟩)
 ·obtain ⟨w3, hrun, m', hb3, ht3, hc3⟩ := upd w r u hb hr htm hv (by omega) (Chg.refl _ _) rfl
  refine wc_seq (wc_seq (wc_region ?_))
  refine wt rfl rfl ?_
  refine wt rfl rfl ?_
  refine wt rfl rfl ?_
  refine wl_loadB rfl to_map rfl hb rfl ?_
  refine wl_mapNil rfl (by kernel_rfl) rfl ?_
  refine wl_nil (qk_thn (wc_no rfl rfl (wc_skip (qk_thn (wc_region ?_)))))
  refine wt rfl rfl ?_
  refine wt rfl rfl ?_
  refine wt rfl rfl ?_
  refine wl_loadB rfl to_map rfl hb rfl ?_
  refine wt rfl rfl ?_
  refine wt rfl rfl ?_
  refine wl_mapUpd rfl rfl rfl hrun ?_
  exact wl_nil (qk_end0 rfl ⟨rfl, m', hb3, ht3, hc3⟩)
end Go.Proofs.YtgpnpfiafcakfaaGreat.Rdk

namespace Go.Proofs.YtgpnpfiafcakfaaGreat.Rdk
open Go Go.RowKit
set_option maxRecDepth 100000
end Go.Proofs.YtgpnpfiafcakfaaGreat.Rdk

namespace Go.Proofs.YtgpnpfiafcakfaaGreat
open Go Go.RowKit
def arrOf (P : Program) (t n : Nat) : Bool := match P.underlying t with
 | some (.array m e) => Nat.beq m n && (P.info? e).isSome
 | _ => false
section
variable {P : Program} {ops : Array Oper} {Q : Exit → Act → World → Prop} {N : Nat} {rest : List Oper} {L : Sl} {w : World} {ty : TypeId} {pos : String} {aft : Array Edge}
theorem rn_arrSl {a : Act} {d : Option Nat} {g : Option (Nat × Bool)} {x : Operand} {t n b : Nat} (k : Kn N a L) (hx : ev L x = some (.pointer (some ⟨b, 0, none⟩))) (ht : arrOf P t n = true) :
  (execOp a.eval ⟨d, .slice t x none none none, ty, pos, aft, g⟩).run P w = .ok (.value (.slice (some ⟨b, 0, none⟩) n n)) w := by
 unfold arrOf at ht
 split at ht
 ·rename_i m e he
  simp only [Bool.and_eq_true] at ht
  obtain ⟨h1, h2⟩ := ht
  have := Nat.eq_of_beq_eq_true h1; subst this
  cases hie : P.info? e with
  | none => simp [hie] at h2
  | some inf =>
   simp only [execOp, k.eval hx, Option.map_none]
   simp [Instr.sliceAt, Instr.sureAddr, run_underlying he, Instr.sliceBounds, sizeOf, typeInfo, hie, Addr.add]
 ·cases ht
theorem wl_arrSl {d : Nat} {x : Operand} {t n b : Nat} (hx : ev L x = some (.pointer (some ⟨b, 0, none⟩))) (ht : arrOf P t n = true) (hd : Nat.blt d N = true) (h : WL rest P ops Q N ((d, .slice (some ⟨b, 0, none⟩) n n) :: L) w) :
  WL (⟨some d, .slice t x none none none, ty, pos, aft, none⟩ :: rest) P ops Q N L w := by
 intro a k
 exact st_of (o := ⟨some d, .slice t x none none none, ty, pos, aft, none⟩) (v := .slice (some ⟨b, 0, none⟩) n n) rfl (rn_arrSl k hx ht) (h _ (k.put _ hd))
theorem does_copyBox {a : Act} {d : Option Nat} {gd : Option (Nat × Bool)} {x y : Operand} {t u u8 n g c e : Nat} {sv : Value} {xs ys : List UInt8} {R : Value → World → Prop} (k : Kn N a L) (hT : byteSl P t u8 = true) (hx : ev L x = some (.slice (some ⟨g, 0, none⟩) n c)) (hy : ev L y = some sv)
  (hB : Box w g (bv xs) e) (hlen : xs.length = n) (hsv : BytesAt w sv ys)
  (h : ∀ w', Box w' g (bv (ys.take n ++ xs.drop (min ys.length n))) e → w.grownBy w' (some g) → R (.int .i64 ((min ys.length n : Nat) : Int)) w') : Does P ⟨d, .call ⟨.builtin .copy, #[x, y], #[t, u]⟩, ty, pos, aft, gd⟩ a w R := by
 obtain ⟨hu, i, z, hi, hs1, hb1, hz', hzc⟩ := byteSl_out hT
 have hsz : (P.info? u8).map (·.size) = some 1 := by rw [hi]; simp [hs1]
 subst hlen
 rcases hsv with ⟨a0, c0, rfl, rfl⟩ | ⟨b, off, c0, rfl, hc⟩
 ·have hrun := run_copy_none (P := P) w t u ty u8 (some ⟨g, 0, none⟩) a0 xs.length c 0 c0 hu hsz (by simp)
  refine does_of (v := .int .i64 ((min ([] : List UInt8).length xs.length : Nat) : Int)) (w' := w) ?_ (h w (by simpa using hB) ⟨rfl, rfl, rfl, Nat.le_refl _, fun _ _ _ => rfl⟩)
  simp only [execOp, resolve, List.map_toArray, List.map_cons, List.map_nil, k.eval hx, k.eval hy, Sem.run_bind, Sem.run_pure, Result.andThen_ok, invoke, builtin, hrun]
  simp [goInt]
 ·have hcl : (bv (ys.take xs.length)).length = Nat.min ys.length xs.length := by rw [bv_length, List.length_take, Nat.min_comm]
  have hm : Nat.min ys.length xs.length ≤ xs.length := Nat.min_le_right _ _
  have hrun := run_copy_row (P := P) w t u ty u8 g 0 xs.length c ⟨b, off, none⟩ ys.length c0 (bv xs).toArray e (bv (ys.take xs.length)) hu hsz hB hcl
   (fun j v hv => by
    rw [add_plain _ _ rfl]
    refine hc.cell (i := j) ?_
    simp only [bv, List.map_take] at hv
    rw [List.getElem?_take] at hv
    split at hv
    ·exact hv
    ·cases hv) (by rw [hcl]; simp only [List.size_toArray, bv_length]; omega) (bv_one _)
  refine does_of (v := .int .i64 ((min ys.length xs.length : Nat) : Int)) (w' := w.setRow g ((bv xs).toArray.toList.take 0 ++ bv (ys.take xs.length) ++ (bv xs).toArray.toList.drop (0 + (bv (ys.take xs.length)).length)).toArray) ?_ (h _ ?_ ?_)
  ·simp only [execOp, resolve, List.map_toArray, List.map_cons, List.map_nil, k.eval hx, k.eval hy, Sem.run_bind, Sem.run_pure, Result.andThen_ok, invoke, builtin, hrun]
   simp [goInt, hcl]
  ·have hbx := setRow_heap w g _ ((bv xs).toArray.toList.take 0 ++ bv (ys.take xs.length) ++ (bv xs).toArray.toList.drop (0 + (bv (ys.take xs.length)).length)).toArray e _ hB
   unfold Box
   rw [hbx]
   congr 2
   rw [hcl, bv_append]
   have : bv (xs.drop (min ys.length xs.length)) = (bv xs).drop (min ys.length xs.length) := by simp [bv]
   rw [this]
   simp only [List.take_zero, List.nil_append, Nat.zero_add]
  ·exact ⟨rfl, rfl, rfl, by simp, fun k' _ hk => setRow_other w g k' _ (fun e' => hk (by rw [e']))⟩
end
end Go.Proofs.YtgpnpfiafcakfaaGreat

namespace Go.Proofs.YtgpnpfiafcakfaaGreat.Rdk
open Go Go.RowKit
set_option maxRecDepth 100000
end Go.Proofs.YtgpnpfiafcakfaaGreat.Rdk

namespace Go.Proofs.YtgpnpfiafcakfaaGreat.Rdk
open Go Go.RowKit
end Go.Proofs.YtgpnpfiafcakfaaGreat.Rdk

namespace Go.Proofs.YtgpnpfiafcakfaaGreat
open Go Go.RowKit
def fldCells (f : Fld) : List Value := [.int .i64 f.kind, .int .i64 f.fr, .int .i64 f.upto, .int .i64 f.nul, .int .i64 f.tag, .int .i64 f.df, .int .i64 f.of, .slice none 0 0]
theorem rep_fld0 (ok : Nat → Prop) (w : World) : ∀ (f : Fld), f.sub.isEmpty = true → Rep ok w (fldD f) (fldCells f)
 | .mk a b c d e f g sub, h => by
  have : sub = [] := by cases sub with | nil => rfl | cons _ _ => simp [Fld.sub] at h
  subst this
  simp only [fldD, fldDs, Rep, Reps]
  exact ⟨[_], _, rfl, rfl, [_], _, rfl, rfl, [_], _, rfl, rfl, [_], _, rfl, rfl, [_], _, rfl, rfl, [_], _, rfl, rfl, [_], _, rfl, rfl, [_], _, rfl, ⟨none, 0, rfl, by simp, .inl (by simp)⟩, rfl⟩
def Frs (lo hi : Nat) : Nat → Prop := fun b => lo ≤ b ∧ b < hi
theorem rep_fr {lo : Nat} {w w' : World} {d : D} {cs : List Value} {lo' : Nat} (h : Rep (Frs lo w.heap.size) w d cs) (hb : Below w.heap.size w w') (hl : lo' ≤ lo) : Rep (Frs lo' w'.heap.size) w' d cs :=
 Rep.mono (fun b k => ⟨⟨Nat.le_trans hl k.1, Nat.lt_of_lt_of_le k.2 hb.size⟩, hb.block b k.2⟩) _ _ h
theorem rep_frw {lo lo' hi : Nat} {w : World} {d : D} {cs : List Value} (h : Rep (Frs lo hi) w d cs) (hl : lo' ≤ lo) : Rep (Frs lo' hi) w d cs :=
 Rep.mono (fun _ k => ⟨⟨Nat.le_trans hl k.1, k.2⟩, rfl⟩) _ _ h
theorem rep_sqshape {ok : Nat → Prop} {w : World} {v : Value} {ds : List D} (h : Rep ok w (.sq ds) [v]) : ∃ a c, v = .slice a ds.length c := by
 simp only [Rep] at h
 obtain ⟨a, c, e, _⟩ := h
 exact ⟨a, c, by simpa using e⟩
theorem reps_fnil {ok : Nat → Prop} {w : World} : Reps ok w (([] : List Fld).map fldD) ([] : List (List Value)).flatten := by simp [Reps]
theorem reps_fcons {ok : Nat → Prop} {w : World} {f : Fld} {fs : List Fld} {c : List Value} {cs : List (List Value)} (h : Rep ok w (fldD f) c) (hl : Reps ok w (fs.map fldD) cs.flatten) : Reps ok w ((f :: fs).map fldD) (c :: cs).flatten := by
 simp only [List.map_cons, List.flatten_cons, Reps]
 exact ⟨_, _, rfl, h, hl⟩
theorem rep_fldS {ok : Nat → Prop} {w : World} {a b c d e f g : Int} {sub : List Fld} {v : Value} (h : Rep ok w (.sq (sub.map fldD)) [v]) : Rep ok w (fldD (.mk a b c d e f g sub)) [.int .i64 a, .int .i64 b, .int .i64 c, .int .i64 d, .int .i64 e, .int .i64 f, .int .i64 g, v] := by
 have h2 : Rep ok w (.sq (fldDs sub)) [v] := by rw [fldDs_map]; exact h
 simp only [fldD, Rep, Reps] at h2 ⊢
 exact ⟨[_], _, rfl, rfl, [_], _, rfl, rfl, [_], _, rfl, rfl, [_], _, rfl, rfl, [_], _, rfl, rfl, [_], _, rfl, rfl, [_], _, rfl, rfl, [_], _, rfl, h2, rfl⟩
section
variable {P : Program} {ops : Array Oper} {Q : Exit → Act → World → Prop} {N : Nat} {rest : List Oper} {L : Sl} {w : World} {d : Nat} {ty : TypeId} {pos : String} {aft : Array Edge}
end
theorem chg_below {S : Nat → Prop} {B : Nat} {w w' : World} (h : Chg S w w') (hS : ∀ j, j < B → ¬ S j) (hB : B ≤ w.heap.size) : Below B w w' := ⟨h.os, h.tape, h.output, h.size, fun k hk => h.block k (by omega) (hS k hk)⟩
theorem lits_head {ok : Nat → Prop} {w : World} {v : Value} {ds : List D} {cs : List Value} (h : Reps ok w (.lit v :: ds) cs) : cs[0]? = some v := by
 simp only [Reps, Rep] at h
 obtain ⟨c1, c2, rfl, rfl, _⟩ := h
 rfl
theorem be2_ver (n : Nat) (h : n < 32768) : IntKind.i16.wrap (n : Int) = (n : Int) := by
 simp only [IntKind.wrap, IntKind.bits, IntKind.signed]
 simp
 omega
end Go.Proofs.YtgpnpfiafcakfaaGreat

/-
 DERIVED: THE SHELF's CONTRACTS AT THIS DUMP, IN PLAIN WORDS (tools/lay-plain.mjs out of 'YtgpnpfiafcakfaaGreatLay6.lean', which tools/lay-shelf.mjs wrote): THE SAME DECLARATIONS UNDER THE SAME NAMES: 'import', 'namespace', 'open', 'def', 'theorem' AND NOTHING ELSE: no command of the shelf's: FOR A HAND-IN. Each laying: the table of numbers ('.._ren') and one theorem, a field a fact of the dump's own or the kernel's comparison; each contract: ONE APPLICATION.
-/
namespace Go.Proofs
open Go.Shelf
def Tryz.gl6_ren : Go.Shelf.Ren := ⟨fun | 6 => 69 | 10 => 71 | 11 => 72 | 12 => 73 | 13 => 74 | 14 => 75 | 24 => 68 | 25 => 85 | 26 => 86 | 27 => 87 | 28 => 88 | 29 => 89 | 30 => 90 | 31 => 91 | 32 => 92 | 33 => 93 | 34 => 94 | 35 => 95 | 36 => 96 | 37 => 97 | 38 => 98 | 39 => 99 | n => n, fun | 20 => 20 | 26 => 123 | 35 => 127 | 0 => 0 | 37 => 129 | 3 => 3 | 41 => 112 | 44 => 134 | 49 => 62 | 51 => 104 | 4 => 4 | 54 => 141 | 53 => 140 | 58 => 145 | 5 => 5 | 9 => 9 | 60 => 147 | 64 => 151 | 66 => 153 | 67 => 154 | 17 => 17 | 32 => 124 | 33 => 125 | 82 => 169 | 12 => 12 | 75 => 162 | 76 => 163 | 77 => 164 | 78 => 165 | 79 => 166 | 80 => 167 | n => n, fun | n => n⟩
theorem Tryz.gl6 : Go.Proofs.LaysGg.n6 Tryz.prog Tryz.gl6_ren := {
 mixed := by kernel_rfl
 f6 := Tryz.func69.trans (congrArg some (by kernel_rfl))
 f10 := Tryz.func71.trans (congrArg some (by kernel_rfl))
 f11 := Tryz.func72.trans (congrArg some (by kernel_rfl))
 f12 := Tryz.func73.trans (congrArg some (by kernel_rfl))
 f13 := Tryz.func74.trans (congrArg some (by kernel_rfl))
 f14 := Tryz.func75.trans (congrArg some (by kernel_rfl))
 f24 := Tryz.func68.trans (congrArg some (by kernel_rfl))
 f25 := Tryz.func85.trans (congrArg some (by kernel_rfl))
 f26 := Tryz.func86.trans (congrArg some (by kernel_rfl))
 f27 := Tryz.func87.trans (congrArg some (by kernel_rfl))
 f28 := Tryz.func88.trans (congrArg some (by kernel_rfl))
 f29 := Tryz.func89.trans (congrArg some (by kernel_rfl))
 f30 := Tryz.func90.trans (congrArg some (by kernel_rfl))
 f31 := Tryz.func91.trans (congrArg some (by kernel_rfl))
 f32 := Tryz.func92.trans (congrArg some (by kernel_rfl))
 f33 := Tryz.func93.trans (congrArg some (by kernel_rfl))
 f34 := Tryz.func94.trans (congrArg some (by kernel_rfl))
 f35 := Tryz.func95.trans (congrArg some (by kernel_rfl))
 f36 := Tryz.func96.trans (congrArg some (by kernel_rfl))
 f37 := Tryz.func97.trans (congrArg some (by kernel_rfl))
 f38 := Tryz.func98.trans (congrArg some (by kernel_rfl))
 f39 := Tryz.func99.trans (congrArg some (by kernel_rfl))
 t0 := Tryz.underlying0
 a0 := Tryz.isAgg0
 z0 := Tryz.sizeOf0
 v0 := Tryz.zeroValue0
 i0 := by kernel_rfl
 t3 := Tryz.underlying3
 a3 := Tryz.isAgg3
 z3 := Tryz.sizeOf3
 v3 := Tryz.zeroValue3
 i3 := by kernel_rfl
 t4 := Tryz.underlying4
 a4 := Tryz.isAgg4
 z4 := Tryz.sizeOf4
 v4 := Tryz.zeroValue4
 i4 := by kernel_rfl
 t5 := Tryz.underlying5
 a5 := Tryz.isAgg5
 z5 := Tryz.sizeOf5
 v5 := Tryz.zeroValue5
 i5 := by kernel_rfl
 t9 := Tryz.underlying9
 a9 := Tryz.isAgg9
 z9 := Tryz.sizeOf9
 v9 := Tryz.zeroValue9
 i9 := by kernel_rfl
 t12 := Tryz.underlying12
 a12 := Tryz.isAgg12
 z12 := Tryz.sizeOf12
 v12 := Tryz.zeroValue12
 i12 := by kernel_rfl
 t17 := Tryz.underlying17
 a17 := Tryz.isAgg17
 z17 := Tryz.sizeOf17
 v17 := Tryz.zeroValue17
 i17 := by kernel_rfl
 t20 := Tryz.underlying20
 a20 := Tryz.isAgg20
 z20 := Tryz.sizeOf20
 v20 := Tryz.zeroValue20
 i20 := by kernel_rfl
 t26 := Tryz.underlying123
 a26 := Tryz.isAgg123
 z26 := Tryz.sizeOf123
 v26 := Tryz.zeroValue123
 i26 := by kernel_rfl
 t32 := Tryz.underlying124
 a32 := Tryz.isAgg124
 z32 := Tryz.sizeOf124
 v32 := Tryz.zeroValue124
 i32 := by kernel_rfl
 t33 := Tryz.underlying125
 a33 := Tryz.isAgg125
 z33 := Tryz.sizeOf125
 v33 := Tryz.zeroValue125
 i33 := by kernel_rfl
 t35 := Tryz.underlying127
 a35 := Tryz.isAgg127
 z35 := Tryz.sizeOf127
 v35 := Tryz.zeroValue127
 i35 := by kernel_rfl
 t37 := Tryz.underlying129
 a37 := Tryz.isAgg129
 z37 := Tryz.sizeOf129
 v37 := Tryz.zeroValue129
 i37 := by kernel_rfl
 t41 := Tryz.underlying112
 a41 := Tryz.isAgg112
 z41 := Tryz.sizeOf112
 v41 := Tryz.zeroValue112
 i41 := by kernel_rfl
 t44 := Tryz.underlying134
 a44 := Tryz.isAgg134
 z44 := Tryz.sizeOf134
 v44 := Tryz.zeroValue134
 i44 := by kernel_rfl
 t49 := Tryz.underlying62
 a49 := Tryz.isAgg62
 z49 := Tryz.sizeOf62
 v49 := Tryz.zeroValue62
 i49 := by kernel_rfl
 t51 := Tryz.underlying104
 a51 := Tryz.isAgg104
 z51 := Tryz.sizeOf104
 v51 := Tryz.zeroValue104
 i51 := by kernel_rfl
 t53 := Tryz.underlying140
 a53 := Tryz.isAgg140
 z53 := Tryz.sizeOf140
 v53 := Tryz.zeroValue140
 i53 := by kernel_rfl
 t54 := Tryz.underlying141
 a54 := Tryz.isAgg141
 z54 := Tryz.sizeOf141
 v54 := Tryz.zeroValue141
 i54 := by kernel_rfl
 t58 := Tryz.underlying145
 a58 := Tryz.isAgg145
 z58 := Tryz.sizeOf145
 v58 := Tryz.zeroValue145
 i58 := by kernel_rfl
 t60 := Tryz.underlying147
 a60 := Tryz.isAgg147
 z60 := Tryz.sizeOf147
 v60 := Tryz.zeroValue147
 i60 := by kernel_rfl
 t64 := Tryz.underlying151
 a64 := Tryz.isAgg151
 z64 := Tryz.sizeOf151
 v64 := Tryz.zeroValue151
 i64 := by kernel_rfl
 t66 := Tryz.underlying153
 a66 := Tryz.isAgg153
 z66 := Tryz.sizeOf153
 v66 := Tryz.zeroValue153
 i66 := by kernel_rfl
 t67 := Tryz.underlying154
 a67 := Tryz.isAgg154
 z67 := Tryz.sizeOf154
 v67 := Tryz.zeroValue154
 i67 := by kernel_rfl
 t75 := Tryz.underlying162
 a75 := Tryz.isAgg162
 z75 := Tryz.sizeOf162
 v75 := Tryz.zeroValue162
 i75 := by kernel_rfl
 t76 := Tryz.underlying163
 a76 := Tryz.isAgg163
 z76 := Tryz.sizeOf163
 v76 := Tryz.zeroValue163
 i76 := by kernel_rfl
 t77 := Tryz.underlying164
 a77 := Tryz.isAgg164
 z77 := Tryz.sizeOf164
 v77 := Tryz.zeroValue164
 i77 := by kernel_rfl
 t78 := Tryz.underlying165
 a78 := Tryz.isAgg165
 z78 := Tryz.sizeOf165
 v78 := Tryz.zeroValue165
 i78 := by kernel_rfl
 t79 := Tryz.underlying166
 a79 := Tryz.isAgg166
 z79 := Tryz.sizeOf166
 v79 := Tryz.zeroValue166
 i79 := by kernel_rfl
 t80 := Tryz.underlying167
 a80 := Tryz.isAgg167
 z80 := Tryz.sizeOf167
 v80 := Tryz.zeroValue167
 i80 := by kernel_rfl
 t82 := Tryz.underlying169
 a82 := Tryz.isAgg169
 z82 := Tryz.sizeOf169
 v82 := Tryz.zeroValue169
 i82 := by kernel_rfl }
end Go.Proofs

namespace Go.Proofs.YtgpnpfiafcakfaaGreat
open Go Go.RowKit
section
set_option maxRecDepth 100000
theorem appendUuid (ys : List UInt8) (hs : ys.length = 16) : App 38 [.agg (bv ys).toArray] ys := by
 intro d w B xs hpre hown hB hlim
 refine enter Tryz.func38 rfl Tryz.ntmps38 rfl ?_
 refine wc_seq (wc_region (wl_box1 (cs := bv ys) rfl rfl rfl (fun w1 hb1 hg1 hz1 => ?_)))
 repeat first|(with_reducible first|apply wc_seq|apply wc_region|apply wl_nil|apply qk_thn)|((with_reducible apply ws);exact rfl;exact rfl)
 refine wl_arrSl (n := 16) rfl (by kernel_rfl) rfl ?_
 refine wl_appSl (xs := xs) (ys := ys) (B := B) tb_bytes tb_bytes rfl rfl rfl (.inr ⟨w.heap.size, 0, 16, by rw [hs], hb1.cells⟩) (hown.kept hg1 (Decidable.em _)) (by omega) hlim (fun d' w' ho hg => ?_)
 repeat first|(with_reducible first|apply wl_nil|apply qk_thn|apply wc_ret)|((with_reducible apply ws);exact rfl;exact rfl)
 have hg0 : Grew w w1 d d := ⟨⟨hg1.os, hg1.tape, hg1.output, hg1.size, fun k hk _ => hg1.block k hk (by simp)⟩, .inl rfl⟩
 exact qk_ret1 rfl rfl ⟨_, rfl, ho, hg0.trans hg⟩
end
end Go.Proofs.YtgpnpfiafcakfaaGreat

namespace Go.Proofs.YtgpnpfiafcakfaaGreat
open Go Go.RowKit
def FnOk (f : Nat) (p : Pf) : Prop := ∀ (args : List Ar) (vs : List Value) (ys : List UInt8) (d : Value) (w : World) (B : Nat) (xs : List UInt8),
 semP p args = some ys → ArsOk B w args vs → Own w B 5 d xs → B ≤ w.heap.size → xs.length + ys.length ≤ lim →
 Calls Tryz.prog f (d :: vs).toArray w fun e w' => ∃ d', e = .returned d' ∧ Own w' B 5 d' (xs ++ ys) ∧ Grew w w' d d'
theorem arVal {B : Nat} {w : World} {a : Ar} {x v : Value} (h : a.val = some x) (k : ArOk B w a v) : v = x := by
 cases a with
 | v y => simp only [Ar.val, Option.some.injEq] at h; subst h; exact k
 | d y =>
  cases y with
  | lit z =>
   simp only [Ar.val, Option.some.injEq] at h; subst h
   simp only [ArOk, Rep] at k
   simpa using k
  | _ => cases h
theorem ars1 {B : Nat} {w : World} {a : Ar} {vs : List Value} (h : ArsOk B w [a] vs) : ∃ v, vs = [v] ∧ ArOk B w a v := by
 obtain ⟨v, r, rfl, h1, h2⟩ := h
 simp only [ArsOk] at h2
 subst h2
 exact ⟨v, rfl, h1⟩
theorem srcOf {B : Nat} {w : World} {d : D} {n : Bool} {ds : List D} {cs : List UInt8} {v : Value} (h : sliceOf d = some (n, ds)) (hb : bytesOf ds = some cs) (k : ArOk B w (.d d) v) : Src w B v cs := by
 have hds := bytesOf_eq hb
 subst hds
 have key : ∀ (b off cap : Nat) (cs' : List Value), Lo B b → CellsAt w b off cs' → Reps (Lo B) w (cs.map byteD) cs' → Src w B (.slice (some ⟨b, off, none⟩) cs.length cap) cs := by
  intro b off cap cs' hb hc hr
  rw [(reps_bytes cs cs').1 hr] at hc
  refine ⟨.inr ⟨b, off, cap, rfl, hc⟩, .inr (fun g hg => ?_)⟩
  simp only [Value.ownBlock, Option.some.injEq] at hg
  subst hg; exact hb
 cases d with
 | sl m l =>
  simp only [sliceOf, Option.some.injEq, Prod.mk.injEq] at h
  obtain ⟨rfl, rfl⟩ := h
  simp only [ArOk, Rep, List.length_map] at k
  obtain ⟨a, c, e, _, h1, h2⟩ := k
  simp only [List.cons.injEq, and_true] at e
  subst e
  cases m with
  | true =>
   obtain ⟨rfl, h0, _⟩ := h1 rfl
   have : cs = [] := by simpa using h0
   subst this
   exact ⟨.inl ⟨_, _, rfl, rfl⟩, .inl rfl⟩
  | false => obtain ⟨b, off, cs', rfl, hb, hc, hr⟩ := h2 rfl; exact key b off c cs' hb hc hr
 | sq l =>
  simp only [sliceOf, Option.some.injEq, Prod.mk.injEq] at h
  obtain ⟨rfl, rfl⟩ := h
  simp only [ArOk, Rep, List.length_map] at k
  obtain ⟨a, c, e, _, h2⟩ := k
  simp only [List.cons.injEq, and_true] at e
  subst e
  rcases h2 with h0 | ⟨b, off, cs', rfl, hb, hc, hr⟩
  ·have : cs = [] := by simpa using h0
   subst this
   exact ⟨.inl ⟨_, _, rfl, rfl⟩, .inl rfl⟩
  ·exact key b off c cs' hb hc hr
 | _ => cases h
theorem k_bool : FnOk 35 .bool := by
 intro args vs ys d w B xs hs ha ho hB hl
 cases args with
 | nil => simp [semP] at hs
 | cons a r =>
  cases r with
  | cons _ _ => simp [semP] at hs
  | nil =>
   obtain ⟨v, rfl, hv⟩ := ars1 ha
   simp only [semP] at hs
   split at hs
   ·rename_i n hn; cases hs; rw [arVal hn hv] at *; exact appendBool n d w B xs trivial ho hB hl
   ·cases hs
theorem k_i8 : FnOk 40 .i8 := by
 intro args vs ys d w B xs hs ha ho hB hl
 cases args with
 | nil => simp [semP] at hs
 | cons a r =>
  cases r with
  | cons _ _ => simp [semP] at hs
  | nil =>
   obtain ⟨v, rfl, hv⟩ := ars1 ha
   simp only [semP] at hs
   split at hs
   ·rename_i n hn; cases hs; rw [arVal hn hv] at *; exact appendInt8 n d w B xs trivial ho hB hl
   ·cases hs
theorem k_i16 : FnOk 55 .i16 := by
 intro args vs ys d w B xs hs ha ho hB hl
 cases args with
 | nil => simp [semP] at hs
 | cons a r =>
  cases r with
  | cons _ _ => simp [semP] at hs
  | nil =>
   obtain ⟨v, rfl, hv⟩ := ars1 ha
   simp only [semP] at hs
   split at hs
   ·rename_i n hn; cases hs; rw [arVal hn hv] at *; exact appendInt16 n d w B xs trivial ho hB hl
   ·cases hs
theorem k_i32 : FnOk 34 .i32 := by
 intro args vs ys d w B xs hs ha ho hB hl
 cases args with
 | nil => simp [semP] at hs
 | cons a r =>
  cases r with
  | cons _ _ => simp [semP] at hs
  | nil =>
   obtain ⟨v, rfl, hv⟩ := ars1 ha
   simp only [semP] at hs
   split at hs
   ·rename_i n hn; cases hs; rw [arVal hn hv] at *; exact appendInt32 n d w B xs trivial ho hB hl
   ·cases hs
theorem k_i64 : FnOk 39 .i64 := by
 intro args vs ys d w B xs hs ha ho hB hl
 cases args with
 | nil => simp [semP] at hs
 | cons a r =>
  cases r with
  | cons _ _ => simp [semP] at hs
  | nil =>
   obtain ⟨v, rfl, hv⟩ := ars1 ha
   simp only [semP] at hs
   split at hs
   ·rename_i n hn; cases hs; rw [arVal hn hv] at *; exact appendInt64 n d w B xs trivial ho hB hl
   ·cases hs
theorem k_u16 : FnOk 67 .u16 := by
 intro args vs ys d w B xs hs ha ho hB hl
 cases args with
 | nil => simp [semP] at hs
 | cons a r =>
  cases r with
  | cons _ _ => simp [semP] at hs
  | nil =>
   obtain ⟨v, rfl, hv⟩ := ars1 ha
   simp only [semP] at hs
   split at hs
   ·rename_i n hn; cases hs; rw [arVal hn hv] at *; exact appendUint16 n d w B xs trivial ho hB hl
   ·cases hs
theorem k_str : FnOk 56 .str := by
 intro args vs ys d w B xs hs ha ho hB hl
 cases args with
 | nil => simp [semP] at hs
 | cons a r =>
  cases r with
  | cons _ _ => simp [semP] at hs
  | nil =>
   obtain ⟨v, rfl, hv⟩ := ars1 ha
   simp only [semP] at hs
   split at hs
   ·rename_i s hn; split at hs
    ·rename_i hsz; cases hs; rw [arVal hn hv] at *; exact appendString s (by omega) d w B xs trivial ho hB hl
    ·cases hs
   ·cases hs
theorem k_cstr : FnOk 54 .cstr := by
 intro args vs ys d w B xs hs ha ho hB hl
 cases args with
 | nil => simp [semP] at hs
 | cons a r =>
  cases r with
  | cons _ _ => simp [semP] at hs
  | nil =>
   obtain ⟨v, rfl, hv⟩ := ars1 ha
   simp only [semP] at hs
   split at hs
   ·rename_i s hn; split at hs
    ·rename_i hsz; cases hs; rw [arVal hn hv] at *; exact appendCompactString s (by omega) d w B xs trivial ho hB hl
    ·cases hs
   ·cases hs
theorem k_nstr : FnOk 33 .nstr := by
 intro args vs ys d w B xs hs ha ho hB hl
 unfold semP at hs
 split at hs
 all_goals try (rename_i hp; cases hp; done)
 all_goals try (cases hs; done)
 ·obtain ⟨v, rfl, hv⟩ := ars1 ha
  cases hs
  simp only [ArOk, Rep, List.cons.injEq, and_true] at hv
  subst hv
  exact appendNullableString_nil d w B xs trivial ho hB hl
 ·obtain ⟨v, rfl, hv⟩ := ars1 ha
  split at hs
  ·rename_i hsz
   cases hs
   simp only [ArOk, Rep, List.cons.injEq, and_true] at hv
   obtain ⟨b, cs', rfl, _, hc, rfl⟩ := hv
   exact appendNullableString_some ⟨b, 0, none⟩ _ (by omega) d w B xs (hc.cell (i := 0) rfl) ho hB hl
  ·cases hs
theorem k_cnstr : FnOk 32 .cnstr := by
 intro args vs ys d w B xs hs ha ho hB hl
 unfold semP at hs
 split at hs
 all_goals try (rename_i hp; cases hp; done)
 all_goals try (cases hs; done)
 ·obtain ⟨v, rfl, hv⟩ := ars1 ha
  cases hs
  simp only [ArOk, Rep, List.cons.injEq, and_true] at hv
  subst hv
  exact appendCompactNullableString_nil d w B xs trivial ho hB hl
 ·obtain ⟨v, rfl, hv⟩ := ars1 ha
  split at hs
  ·rename_i hsz
   cases hs
   simp only [ArOk, Rep, List.cons.injEq, and_true] at hv
   obtain ⟨b, cs', rfl, _, hc, rfl⟩ := hv
   exact appendCompactNullableString_some ⟨b, 0, none⟩ _ (by omega) d w B xs (hc.cell (i := 0) rfl) ho hB hl
  ·cases hs
theorem k_arr : FnOk 37 .arr := by
 intro args vs ys d w B xs hs ha ho hB hl
 unfold semP at hs
 split at hs
 all_goals try (rename_i hp; cases hp; done)
 all_goals try (cases hs; done)
 ·obtain ⟨v, rfl, hv⟩ := ars1 ha
  split at hs
  ·rename_i n hn
   cases hs
   simp only [ArOk] at hv
   subst hv
   obtain ⟨m, rfl⟩ := Int.eq_ofNat_of_zero_le hn.1
   exact appendArrayLen m (by omega) d w B xs trivial ho hB hl
  ·cases hs
theorem k_carr : FnOk 36 .carr := by
 intro args vs ys d w B xs hs ha ho hB hl
 unfold semP at hs
 split at hs
 all_goals try (rename_i hp; cases hp; done)
 all_goals try (cases hs; done)
 ·obtain ⟨v, rfl, hv⟩ := ars1 ha
  split at hs
  ·rename_i n hn
   cases hs
   simp only [ArOk] at hv
   subst hv
   obtain ⟨m, rfl⟩ := Int.eq_ofNat_of_zero_le hn.1
   exact appendCompactArrayLen m (by omega) d w B xs trivial ho hB hl
  ·cases hs
theorem k_uvar : FnOk 41 .uvar := by
 intro args vs ys d w B xs hs ha ho hB hl
 unfold semP at hs
 split at hs
 all_goals try (rename_i hp; cases hp; done)
 all_goals try (cases hs; done)
 ·obtain ⟨v, rfl, hv⟩ := ars1 ha
  split at hs
  ·rename_i n hn
   cases hs
   simp only [ArOk] at hv
   subst hv
   obtain ⟨m, rfl⟩ := Int.eq_ofNat_of_zero_le hn.1
   exact appendUvarint m (by omega) d w B xs trivial ho hB hl
  ·cases hs
theorem k_uuid : FnOk 38 .uuid := by
 intro args vs ys d w B xs hs ha ho hB hl
 unfold semP at hs
 split at hs
 all_goals try (rename_i hp; cases hp; done)
 all_goals try (cases hs; done)
 ·obtain ⟨v, rfl, hv⟩ := ars1 ha
  split at hs
  ·rename_i cs hcs
   split at hs
   ·rename_i hlen
    cases hs
    simp only [ArOk] at hv
    obtain ⟨cells, rfl, hr⟩ := hv
    rw [bytesOf_eq hcs, reps_bytes] at hr
    subst hr
    exact appendUuid _ hlen d w B xs trivial ho hB hl
   ·cases hs
  ·cases hs
def fns : List (Nat × Pf) :=
 (35, .bool) ::
 (40, .i8) ::
 (55, .i16) ::
 (34, .i32) ::
 (39, .i64) ::
 (67, .u16) ::
 (56, .str) ::
 (54, .cstr) ::
 (33, .nstr) ::
 (32, .cnstr) ::
 (37, .arr) ::
 (36, .carr) ::
 (38, .uuid) ::
 (41, .uvar) ::
 []
theorem fns_all : ∀ kv ∈ fns, FnOk kv.1 kv.2 := by
 unfold fns
 refine List.forall_mem_cons.2 ⟨k_bool, ?_⟩
 refine List.forall_mem_cons.2 ⟨k_i8, ?_⟩
 refine List.forall_mem_cons.2 ⟨k_i16, ?_⟩
 refine List.forall_mem_cons.2 ⟨k_i32, ?_⟩
 refine List.forall_mem_cons.2 ⟨k_i64, ?_⟩
 refine List.forall_mem_cons.2 ⟨k_u16, ?_⟩
 refine List.forall_mem_cons.2 ⟨k_str, ?_⟩
 refine List.forall_mem_cons.2 ⟨k_cstr, ?_⟩
 refine List.forall_mem_cons.2 ⟨k_nstr, ?_⟩
 refine List.forall_mem_cons.2 ⟨k_cnstr, ?_⟩
 refine List.forall_mem_cons.2 ⟨k_arr, ?_⟩
 refine List.forall_mem_cons.2 ⟨k_carr, ?_⟩
 refine List.forall_mem_cons.2 ⟨k_uuid, ?_⟩
 refine List.forall_mem_cons.2 ⟨k_uvar, ?_⟩
 intro kv h
 cases h
theorem pfOf_mem : ∀ {l : List (Nat × Pf)} {f : Nat} {p : Pf}, pfOf l f = some p → (f, p) ∈ l
 | [], _, _, h => by cases h
 | kv :: r, f, p, h => by
  simp only [pfOf] at h
  cases hb : Nat.beq kv.1 f with
  | true =>
   rw [hb] at h
   simp only [cond_true, Option.some.injEq] at h
   have := beq_out hb
   subst h; subst this; simp
  | false => rw [hb] at h; exact List.mem_cons_of_mem _ (pfOf_mem h)
def kt (tlen teach : Nat) (ver : Int) : Kt := ⟨fns, tlen, teach, .int .i16 ver⟩
theorem fnsOk (tlen teach : Nat) (ver : Int) : FnsOk Tryz.prog 5 (kt tlen teach ver) := by
 intro f p h _
 exact fns_all _ (pfOf_mem h)
end Go.Proofs.YtgpnpfiafcakfaaGreat

namespace Go.Proofs.YtgpnpfiafcakfaaGreat.Rdk
open Go Go.RowKit
theorem run_lenMap {P : Program} {t ty kt et : TypeId} (w : World) (m : Option Nat) (n : Nat) (h : P.underlying t = some (.map kt et)) (hm : (m = none ∧ n = 0) ∨ ∃ r es clock, m = some r ∧ w.heap[r]? = some (.map es clock) ∧ es.size = n) :
  (Builtin.len_ #[t] ty #[.map m]).run P w = .ok (.int .i64 (n : Int)) w := by
 rcases hm with ⟨rfl, rfl⟩ | ⟨r, es, clock, rfl, hb, rfl⟩
 ·simp [Builtin.len_, run_underlying h, goInt]
 ·simp [Builtin.len_, run_underlying h, MapKept.run_getObj_map hb, goInt]
theorem mp_len {ok : Nat → Prop} {w : World} {kvs : List (Nat × D)} {v : Value} (h : Rep ok w (.mp kvs) [v]) : ∃ m, v = .map m ∧ ((m = none ∧ kvs.length = 0) ∨ ∃ r es clock, m = some r ∧ w.heap[r]? = some (.map es clock) ∧ es.size = kvs.length) := by
 simp only [Rep] at h
 rcases h with ⟨e, rfl⟩ | ⟨r, es, clock, e, _, hb, hm, _⟩
 ·simp only [List.cons.injEq, and_true] at e
  exact ⟨none, e, .inl ⟨rfl, rfl⟩⟩
 ·simp only [List.cons.injEq, and_true] at e
  exact ⟨some r, e, .inr ⟨r, es, clock, rfl, hb, by rw [hm.1, List.length_map]⟩⟩
section
variable {P : Program} {ops : Array Oper} {Q : Exit → Act → World → Prop} {N : Nat} {rest : List Oper} {L : Sl} {w : World} {d : Nat} {ty : TypeId} {pos : String} {aft : Array Edge}
theorem wl_lenMap {x : Operand} {t kt et : TypeId} {m : Option Nat} {n : Nat} (hx : ev L x = some (.map m)) (hu : P.underlying t = some (.map kt et)) (hm : (m = none ∧ n = 0) ∨ ∃ r es clock, m = some r ∧ w.heap[r]? = some (.map es clock) ∧ es.size = n) (hd : Nat.blt d N = true)
  (h : WL rest P ops Q N ((d, .int .i64 (n : Int)) :: L) w) : WL (⟨some d, .call ⟨.builtin .len, #[x], #[t]⟩, ty, pos, aft, none⟩ :: rest) P ops Q N L w := by
 intro a k
 refine st_of (o := ⟨some d, .call ⟨.builtin .len, #[x], #[t]⟩, ty, pos, aft, none⟩) rfl ?_ (h _ (k.put _ hd))
 simp [execOp, resolve, k.eval hx, invoke, builtin, run_lenMap w m n hu hm]
end
theorem tlenOk (teach : Nat) (ver : Int) : TlenOk Tryz.prog (kt 42 teach ver) := by
 intro B w b off kvs v _ hc hr
 obtain ⟨m, rfl, hm⟩ := mp_len hr
 refine enter Tryz.func42 rfl Tryz.ntmps42 rfl ?_
 refine wc_seq (wc_region (wl_assign rfl rfl (wl_nil (qk_thn ?_))))
 refine wc_seq (wc_region ?_)
 refine wt rfl rfl ?_
 refine wt rfl rfl ?_
 refine wt rfl rfl ?_
 refine wl_load rfl to_map rfl hc ?_
 refine wl_lenMap rfl um hm rfl ?_
 refine wt rfl rfl ?_
 exact wl_nil (qk_thn (wc_ret (qk_ret1 rfl rfl ⟨rfl, rfl⟩)))
end Go.Proofs.YtgpnpfiafcakfaaGreat.Rdk

namespace Go.Proofs.YtgpnpfiafcakfaaGreat.Rdk
open Go Go.RowKit Go.Sort Go.Lib Go.Shelf
set_option maxRecDepth 100000
noncomputable def siT : TypeInfo := (Tryz.prog.info? 121).get (by kernel_rfl)
noncomputable def siE : TypeInfo := (Tryz.prog.info? 62).get (by kernel_rfl)
theorem siK (n : Nat) (h2 : 2 ≤ n) : Lib.swapperK n siE 10 = 6 := by
 have a : siE.hasPointers = false := by kernel_rfl
 have b : siE.bytes = 4 := by kernel_rfl
 have c : (n == 0) = false := by simp; omega
 have d : (n == 1) = false := by simp; omega
 simp [Lib.swapperK, a, b, c, d]
set_option maxHeartbeats 2000000 in
theorem less_u32 (blk off c Bs size : Nat) (W : World) (G : Nat → Int) (hs : W.cell? ⟨Bs, 0, none⟩ = some (.slice (some ⟨blk, off, none⟩) size c))
  (hc : ∀ t, t < size → W.cell? ⟨blk, off + t, none⟩ = some (.int .u32 (G t))) (i j : Nat) (hi : i < size) (hj : j < size) :
  Calls Tryz.prog 70 #[.int .i64 i, .int .i64 j, .pointer (some ⟨Bs, 0, none⟩)] W fun e w' => e = .returned (.bool (decide (G i < G j))) ∧ ∃ q, w' = W.drewN q := by
 have ci := hc i hi
 have cj := hc j hj
 go_enter Tryz.func70, Tryz.ntmps70
 go_wp2
 go_quiet (fail)
 go_wp2
 go_ret
 exact ⟨rfl, nq, rfl⟩
abbrev encU : Int → Value := Value.int .u32
theorem holds_row {w : World} {B blk cap : Nat} {e : TypeId} {zs : List Int} (h : w.ownsRow B e 1 (.slice (some ⟨blk, 0, none⟩) zs.length cap) zs.length (zs.map encU)) : Holds encU w blk 0 zs.toArray := by
 obtain ⟨_, ⟨he, _⟩ | ⟨g, cap', cur, he, _, hheap, hle, hcap, hcs, htake⟩⟩ := h
 ·cases he
 ·cases he
  intro j hj
  have hj' : j < zs.length := by simpa using hj
  have hx : cur[j]? = some (encU zs[j]) := by
   have : (cur.toList.take (zs.length * 1))[j]? = some (encU zs[j]) := by rw [htake]; simp [hj']
   rw [List.getElem?_take] at this
   split at this
   ·simpa using this
   ·cases this
  refine ⟨?_, by simp [World.frozen?, hheap]⟩
  rw [show (zs.toArray)[j]! = zs[j] by simp [hj']]
  simp [World.cell?, hheap, hx]
theorem sorted_row {w w' : World} {blk n : Nat} {cur : Array Value} {e : TypeId} {d' : Array Int} {os : Array Obj} (hb : w.heap[blk]? = some (.cells cur e (0, 0))) (hsz : d'.size ≤ cur.size) (hw : w' = grow (putRow encU (Sort.ahead w n) blk 0 d') os) :
  CellsAt w' blk 0 (d'.toList.map encU) ∧ Chg (· = blk) w w' := by
 subst hw
 have hlt : blk < w.heap.size := (Array.getElem?_eq_some_iff.1 hb).1
 have hbl : (putRow encU (Sort.ahead w n) blk 0 d').heap[blk]? = some (.cells (putCells encU 0 d' cur) e (0, 0)) := by
  simp [putRow, mapBlock, Sort.ahead, Array.getElem?_modify, hb, onCells]
 constructor
 ·refine ⟨putCells encU 0 d' cur, e, (0, 0), by rw [heap_grow_old _ _ (by simpa using hlt)]; exact hbl, by simp [putCells]; omega, fun i v hv => ?_⟩
  rw [List.getElem?_map] at hv
  have hi : i < d'.size := by
   cases hx : d'.toList[i]? with
   | none => rw [hx] at hv; cases hv
   | some x => simpa using (List.getElem?_eq_some_iff.1 hx).1
  simp only [Array.getElem?_toList, Array.getElem?_eq_getElem hi, Option.map_some, Option.some.injEq] at hv
  have hic : i < cur.size := by omega
  simp only [Nat.zero_add, putCells, Array.getElem?_mapIdx, Array.getElem?_eq_getElem hic, Option.map_some, Nat.zero_le, true_and, if_pos hi, Nat.sub_zero]
  rw [getElem!_pos d' i hi, hv]
 ·refine ⟨rfl, rfl, rfl, by simp, fun k hk hne => ?_⟩
  rw [heap_grow_old _ _ (by simpa using hk)]
  have : blk ≠ k := fun e => hne e.symm
  simp [putRow, mapBlock, Sort.ahead, Array.getElem?_modify, this]
theorem tiny_sorted : ∀ (zs : List Int), zs.length ≤ 1 → zs.Pairwise (fun x y => x ≤ y)
 | [], _ => List.Pairwise.nil
 | [_], _ => List.pairwise_singleton _ _
theorem fn_sortTiny (p : Option Addr) (n c : Nat) (h1 : n ≤ 1) (Bs : Nat) (w : World) :
  Calls Tryz.prog 69 #[.iface 121 (.slice p n c), .func (.func 70) #[] #[.pointer (some ⟨Bs, 0, none⟩)]] w fun e w' => e = .returned (.tuple #[]) ∧ ∃ os, w' = grow w os := by
 have hK : Lib.swapperK n siE 10 = n + 1 := by
  rcases Nat.eq_zero_or_pos n with h | h
  ·subst h; simp [Lib.swapperK]
  ·obtain rfl : n = 1 := by omega
   simp [Lib.swapperK]
 exact Any.sort_Slice_tiny Tryz.gl6 121 62 siT siE (by kernel_rfl) (by kernel_rfl) (by kernel_rfl) (by kernel_rfl) 10 (fun _ => by kernel_rfl) p n c h1 (76 + n) (by
  rw [hK]
  rcases Nat.eq_zero_or_pos n with h | h
  ·subst h; kernel_rfl
  ·obtain rfl : n = 1 := by omega
   kernel_rfl) (.func 70) #[] #[.pointer (some ⟨Bs, 0, none⟩)] w
set_option maxHeartbeats 2000000 in
theorem fn_sort (w : World) (B blk cap Bs : Nat) (e0 : TypeId) (zs : List Int) (hlen : zs.length < 4611686018427387904) (hbs : Box w Bs [.slice (some ⟨blk, 0, none⟩) zs.length cap] e0)
  (hrow : w.ownsRow B 62 1 (.slice (some ⟨blk, 0, none⟩) zs.length cap) zs.length (zs.map encU)) (hne : Bs ≠ blk) :
  Calls Tryz.prog 69 #[.iface 121 (.slice (some ⟨blk, 0, none⟩) zs.length cap), .func (.func 70) #[] #[.pointer (some ⟨Bs, 0, none⟩)]] w fun e w' =>
   e = .returned (.tuple #[]) ∧ ∃ zs' : List Int, zs'.Perm zs ∧ zs'.Pairwise (fun x y => x ≤ y) ∧ CellsAt w' blk 0 (zs'.map encU) ∧ Chg (· = blk) w w' := by
 have hH := holds_row hrow
 obtain ⟨hxl, ⟨he, _⟩ | ⟨g, cap', cur, he, hBg, hheap, hle, hcap, hcs, htake⟩⟩ := id hrow
 ·cases he
 cases he
 have hblk : blk < w.heap.size := (Array.getElem?_eq_some_iff.1 hheap).1
 have hsz : zs.toArray.size = zs.length := by simp
 by_cases h2 : 2 ≤ zs.length
 ·have hless : LessReads Tryz.prog 70 #[.pointer (some ⟨Bs, 0, none⟩)] encU ltInt blk 0 zs.toArray.size w := by
   intro m os dk hs i j hi hj
   rw [hsz] at hs hi hj
   refine less_u32 blk 0 cap Bs zs.length _ (fun t => dk[t]!) ?_ (fun t ht => ?_) i j hi hj
   ·unfold sortWorld
    rw [cell?_grow _ _ _ (by simpa using hbs.lt), cell?_putRow_other _ _ blk 0 dk _ (Or.inl hne)]
    exact hbs.cell (i := 0) rfl
   ·unfold sortWorld
    rw [cell?_grow _ _ _ (by simpa using hblk)]
    exact cell?_putRow encU (Sort.ahead w m) blk 0 zs.toArray dk (holds_ahead _ _ _ _ _ _ hH) (by rw [hs, hsz]) t (by omega)
  have hS := Any.sort_Slice_sorted Tryz.gl6 121 62 siT siE (by kernel_rfl) (by kernel_rfl) (by kernel_rfl) (by kernel_rfl) 10 (fun _ => by kernel_rfl) (by kernel_rfl) (fun _ => by kernel_rfl) encU (fun _ => rfl) ltInt swo_ltInt 70 _
   (enters_of Tryz.func70 (by kernel_rfl) rfl) blk 0 cap zs.toArray (by rw [hsz]; exact h2) (by rw [hsz]; exact hlen) 81 (by rw [hsz, siK _ h2]; kernel_rfl) true
   (fun args W => run_callFunc_extern Tryz.func81 (by kernel_rfl) (by kernel_rfl) (by kernel_rfl) (e := Extern.ReflectliteSwapper.swap true) (by kernel_rfl) args W) w hless hH hblk
  change Calls Tryz.prog 69 _ _ _ at hS
  rw [hsz] at hS
  refine hS.mono (fun e w' h => ?_)
  obtain ⟨h1, d', n, os, hp, hso, hw⟩ := h
  have hd : d'.size = zs.length := by rw [hp.1, hsz]
  refine ⟨h1, d'.toList, ?_, ?_, ?_⟩
  ·have := hp.2.2
   rw [← hd] at this
   have e1 : d'.toList.take zs.length = d'.toList := List.take_of_length_le (by simp; omega)
   simpa [hd, e1] using this
  ·rw [List.pairwise_iff_getElem]
   intro i j hi hj hij
   have hi' : i < d'.size := by simpa using hi
   have hj' : j < d'.size := by simpa using hj
   have := hso i j (Nat.zero_le _) hij (by omega)
   rw [getElem!_pos d' i hi', getElem!_pos d' j hj'] at this
   simp only [ltInt, decide_eq_false_iff_not] at this
   simp only [Array.getElem_toList]
   omega
  ·exact sorted_row hheap (by rw [hcs, hd]; omega) hw
 ·have hn : zs.length ≤ 1 := by omega
  have hS := fn_sortTiny (some ⟨blk, 0, none⟩) zs.length cap hn Bs w
  refine hS.mono (fun e w' h => ?_)
  obtain ⟨h1, os, hw⟩ := h
  refine ⟨h1, zs, List.Perm.refl _, ?_, ?_⟩
  ·exact tiny_sorted zs hn
  ·subst hw
   refine ⟨⟨cur, 62, (0, 0), by rw [heap_grow_old _ _ hblk]; exact hheap, by rw [List.length_map]; omega, fun i v hv => ?_⟩, ⟨rfl, rfl, rfl, by simp, fun k hk _ => heap_grow_old _ _ hk⟩⟩
   rw [← htake, List.getElem?_take] at hv
   split at hv
   ·simpa using hv
   ·cases hv
end Go.Proofs.YtgpnpfiafcakfaaGreat.Rdk

namespace Go.Proofs.YtgpnpfiafcakfaaGreat.Rdk
open Go Go.RowKit
set_option maxRecDepth 100000
structure GrewB (bx : Nat) (w w' : World) (d d' : Value) : Prop where
 chg : Chg (fun j => j = bx ∨ d.ownBlock = some j) w w'
 fresh : d'.ownBlock = d.ownBlock ∨ ∀ g, d'.ownBlock = some g → w.heap.size ≤ g
theorem Own.under {w w' : World} {B u8 : Nat} {d : Value} {xs : List UInt8} (h : Own w B u8 d xs) (hb : Below w.heap.size w w') : Own w' B u8 d xs := by
 refine h.kept (grown_of hb) ?_
 cases hd : d.ownBlock with
 | none => exact .inl rfl
 | some g => exact .inr (by simp)
theorem GrewB.refl (bx : Nat) (w : World) (d : Value) : GrewB bx w w d d := ⟨Chg.refl _ _, .inl rfl⟩
theorem GrewB.trans {bx : Nat} {a b c : World} {d e f : Value} (h : GrewB bx a b d e) (k : GrewB bx b c e f) : GrewB bx a c d f := by
 refine ⟨⟨k.chg.os.trans h.chg.os, k.chg.tape.trans h.chg.tape, k.chg.output.trans h.chg.output, Nat.le_trans h.chg.size k.chg.size, fun i hi hne => ?_⟩, ?_⟩
 ·rw [← h.chg.block i hi hne]
  refine k.chg.block i (Nat.lt_of_lt_of_le hi h.chg.size) (fun e' => ?_)
  rcases e' with e' | e'
  ·exact hne (.inl e')
  ·rcases h.fresh with hf | hf
   ·exact hne (.inr (hf.symm.trans e'))
   ·have := hf i e'; omega
 ·rcases k.fresh with kf | kf
  ·rcases h.fresh with hf | hf
   ·exact .inl (kf.trans hf)
   ·exact .inr (fun g hg => hf g (kf ▸ hg))
  ·exact .inr (fun g hg => Nat.le_trans h.chg.size (kf g hg))
theorem GrewB.grew {bx : Nat} {w w' : World} {d d' : Value} (h : Grew w w' d d') : GrewB bx w w' d d' :=
 ⟨⟨h.grown.os, h.grown.tape, h.grown.output, h.grown.size, fun k hk hn => h.grown.block k hk (fun e => hn (.inr e.symm))⟩, h.fresh⟩
theorem GrewB.stored {bx : Nat} {w w' : World} (d : Value) (h : w.grownBy w' (some bx)) : GrewB bx w w' d d := ⟨(Chg.grown h).wide (fun _ h => .inl h), .inl rfl⟩
theorem GrewB.ne {bx : Nat} {w w' : World} {d d' : Value} (h : GrewB bx w w' d d') (hne : d.ownBlock ≠ some bx) (hlt : bx < w.heap.size) : d'.ownBlock ≠ some bx := by
 rcases h.fresh with hf | hf
 ·rw [hf]; exact hne
 ·intro e; have := hf bx e; omega
theorem Src.chg {S : Nat → Prop} {w w' : World} {B : Nat} {v : Value} {ys : List UInt8} (h : Src w B v ys) (hc : Chg S w w') (hS : ∀ j, j < B → ¬ S j) (hB : B ≤ w.heap.size) : Src w' B v ys := by
 refine ⟨?_, h.2⟩
 rcases h.1 with ⟨a, c, rfl, rfl⟩ | ⟨b, off, c, rfl, hcs⟩
 ·exact .inl ⟨a, c, rfl, rfl⟩
 ·rcases h.2 with rfl | h2
  ·exact .inl ⟨_, _, rfl, rfl⟩
  have hb : b < B := h2 b rfl
  exact .inr ⟨b, off, c, rfl, hcs.of_block (hc.block b (by omega) (hS b hb))⟩
theorem GrewB.low {bx B : Nat} {w w' : World} {d d' : Value} (h : GrewB bx w w' d d') (hBx : B ≤ bx) (hd : ∀ g, d.ownBlock = some g → B ≤ g) (hB : B ≤ w.heap.size) : Below B w w' :=
 ⟨h.chg.os, h.chg.tape, h.chg.output, h.chg.size, fun k hk => h.chg.block k (by omega) (fun e => by
  rcases e with e | e
  ·omega
  ·have := hd k e; omega)⟩
theorem own_one {w : World} {B u8 : Nat} {d : Value} {xs : List UInt8} (h : Own w B u8 d xs) : d.oneCell' = true := by
 obtain ⟨a, c, rfl⟩ := h.shape
 rfl
set_option maxHeartbeats 1000000 in
theorem fn_put1 (w : World) (bx B k : Nat) (val d : Value) (xs cs : List UInt8) (e : TypeId) (hbx : Box w bx [d] e) (hBx : B ≤ bx) (ho : Own w B 5 d xs) (hB : B ≤ w.heap.size) (hne : d.ownBlock ≠ some bx) (hv : Src w B val cs) (hk : k < 4294967296) (hc : cs.length < 2147483648)
  (hl : xs.length + (uvar k ++ uvar cs.length ++ cs).length ≤ lim) :
  Calls Tryz.prog 61 #[.int .u32 (k : Int), val, .pointer (some ⟨bx, 0, none⟩)] w fun en w' => en = .returned (.tuple #[]) ∧ ∃ d', Box w' bx [d'] e ∧ Own w' B 5 d' (xs ++ (uvar k ++ uvar cs.length ++ cs)) ∧ GrewB bx w w' d d' := by
 obtain ⟨va, vc, rfl⟩ := hv.1.shape
 simp only [List.length_append] at hl
 refine enter (vs := [.int .u32 (k : Int), .slice va cs.length vc, .pointer (some ⟨bx, 0, none⟩)]) Tryz.func61 rfl Tryz.ntmps61 rfl ?_
 repeat (with_reducible first|apply wc_seq|apply wc_region)
 refine wl_loadB rfl to_bytes rfl hbx rfl ?_
 repeat ((with_reducible apply ws);exact rfl;exact rfl)
 refine wl_call rfl (by kernel_rfl) rfl ((appendUvarint k hk d w B xs trivial ho hB (by omega)).mono ?_)
 rintro en w1 ⟨d1, rfl, ho1, hg1⟩
 refine ⟨d1, rfl, ?_⟩
 have hb1 := hbx.kept hg1.grown (fun e => hne e.symm)
 have hs1 := hg1.grown.size
 refine wl_storeB rfl rfl to_bytes (own_one ho1) hb1 rfl (fun w2 hb2 hg2 hs2 => ?_)
 have hG1 : GrewB bx w w1 d d1 := GrewB.grew hg1
 have hn1 := hG1.ne hne hbx.lt
 have ho2 := ho1.kept hg2 (.inr hn1)
 have hG2 := hG1.trans (GrewB.stored d1 hg2)
 have hsz2 : w.heap.size ≤ w2.heap.size := by omega
 repeat (with_reducible first|apply wc_seq|apply wc_region|apply wl_nil|apply qk_thn)
 refine wl_loadB rfl to_bytes rfl hb2 rfl ?_
 repeat ((with_reducible apply ws);exact rfl;exact rfl)
 refine wl_conv .u32 rfl ti_i64 ti_u32 rfl (r := ((cs.length : Nat) : Int)) (by rw [IntKind.wrap_u32]; omega) ?_
 skip
 refine wl_call rfl (by kernel_rfl) rfl ((appendUvarint cs.length (by omega) d1 w2 B _ trivial ho2 (by omega) (by rw [List.length_append]; omega)).mono ?_)
 rintro en w3 ⟨d3, rfl, ho3, hg3⟩
 refine ⟨d3, rfl, ?_⟩
 have hb3 := hb2.kept hg3.grown (fun e => hn1 e.symm)
 have hs3 := hg3.grown.size
 refine wl_storeB rfl rfl to_bytes (own_one ho3) hb3 rfl (fun w4 hb4 hg4 hs4 => ?_)
 have hG3 := hG2.trans (GrewB.grew hg3)
 have hn3 := hG3.ne hne hbx.lt
 have ho4 := ho3.kept hg4 (.inr hn3)
 have hG4 := hG3.trans (GrewB.stored d3 hg4)
 repeat (with_reducible first|apply wc_region|apply wl_nil|apply qk_thn)
 refine wl_loadB rfl to_bytes rfl hb4 rfl ?_
 repeat ((with_reducible apply ws);exact rfl;exact rfl)
 have hv4 : Src w4 B (.slice va cs.length vc) cs := Src.chg hv hG4.chg (fun j hj e => by
  rcases e with e | e
  ·omega
  ·have := ho.ge j e; omega) hB
 refine wl_appSl tb_bytes tb_bytes rfl rfl rfl hv4.1 ho4 (by omega) (by simp only [List.length_append]; omega) (fun d5 w5 ho5 hg5 => ?_)
 have hb5 := hb4.kept hg5.grown (fun e => hn3 e.symm)
 have hG5 := hG4.trans (GrewB.grew hg5)
 have hn5 := hG5.ne hne hbx.lt
 refine wl_storeB rfl rfl to_bytes (own_one ho5) hb5 rfl (fun w6 hb6 hg6 hs6 => ?_)
 have ho6 := ho5.kept hg6 (.inr hn5)
 have hG6 := hG5.trans (GrewB.stored d5 hg6)
 refine wl_nil ?_
 refine qk_end0 rfl ⟨rfl, d5, hb6, ?_, hG6⟩
 simpa [List.append_assoc] using ho6
theorem rt_u32 : rowTy Tryz.prog 121 62 1 = true := by kernel_rfl
theorem to_u32s : tyOne Tryz.prog 121 = true := by kernel_rfl
theorem es_u32s : elemSize Tryz.prog 121 = some 1 := by kernel_rfl
theorem el_u32s : (elemSize Tryz.prog 121).isSome = true := by kernel_rfl
theorem un_u32s : Tryz.prog.underlying 121 = some (.slice 62) := by kernel_rfl
theorem zv_u32s (w : World) : (zeroValue 121).run Tryz.prog w = .ok (.slice none 0 0) w := by kernel_rfl
theorem ne_u32s : (121 : Nat) ≠ 62 := by decide
theorem rising_len : ∀ (l : List Nat) (lo M : Nat), l.Pairwise (· < ·) → (∀ x ∈ l, lo ≤ x ∧ x < M) → l.length ≤ M - lo
 | [], _, _, _, _ => by simp
 | x :: l, lo, M, hp, h => by
  have hp' := List.pairwise_cons.1 hp
  have hx := h x (by simp)
  have := rising_len l (x + 1) M hp'.2 (fun y hy => ⟨hp'.1 y hy, (h y (by simp [hy])).2⟩)
  simp only [List.length_cons]; omega
theorem semT_keys {kvs : List (Nat × D)} {ys : List UInt8} (h : semT kvs = some ys) : ∀ k ∈ kvs.map (·.1), k < 4294967296 := by
 intro k hk
 obtain ⟨kv, hkv, rfl⟩ := List.mem_map.1 hk
 obtain ⟨i, hi, rfl⟩ := List.mem_iff_getElem.1 hkv
 obtain ⟨_, _, _, _, _, h3, _⟩ := semT_at kvs ys h i hi
 exact h3
theorem row_block {w : World} {B e sz n g : Nat} {d : Value} {xs : List Value} (h : w.ownsRow B e sz d n xs) (hg : d.ownBlock = some g) : ∃ cur, w.heap[g]? = some (.cells cur e (0, 0)) := by
 rcases h.2 with ⟨rfl, _⟩ | ⟨g', cap', cur, rfl, _, hheap, _⟩
 ·simp [Value.ownBlock] at hg
 ·simp only [Value.ownBlock, Option.some.injEq] at hg; subst hg; exact ⟨cur, hheap⟩
theorem Row.kept {w w' : World} {B e sz n : Nat} {d : Value} {xs : List Value} {row : Option Nat} (h : w.ownsRow B e sz d n xs) (hg : w.grownBy w' row) (hne : d.ownBlock = none ∨ d.ownBlock ≠ row) : w'.ownsRow B e sz d n xs :=
 World.ownsRow.kept h hg hne
theorem nodup_one {α β : Type} (f : α → β) : ∀ (l : List α), (l.map f).Nodup → ∀ x ∈ l, ∀ y ∈ l, f x = f y → x = y
 | [], _, x, hx, _, _, _ => by cases hx
 | a :: l, hn, x, hx, y, hy, h => by
  simp only [List.map_cons, List.nodup_cons] at hn
  rcases List.mem_cons.1 hx with e1 | h1
  ·rcases List.mem_cons.1 hy with e2 | h2
   ·rw [e1, e2]
   ·exact (hn.1 (List.mem_map.2 ⟨y, h2, by rw [← h, e1]⟩)).elim
  ·rcases List.mem_cons.1 hy with e2 | h2
   ·exact (hn.1 (List.mem_map.2 ⟨x, h1, by rw [h, e2]⟩)).elim
   ·exact nodup_one f l hn.2 x h1 y h2 h
theorem leftOf_nil (es : Array MapEntry) : leftOf es #[] = es := by
 unfold leftOf
 exact Array.filter_eq_self.2 (by simp)
theorem arOf {B : Nat} {w : World} {d : D} {s : Bool × List D} {v : Value} (h : sliceOf d = some s) (hr : Rep (Lo B) w d [v]) : ArOk B w (.d d) v := by
 cases d <;> first | exact hr | (simp [sliceOf] at h)
set_option maxHeartbeats 4000000 in
theorem fn_each (w : World) (bx B b off : Nat) (kvs : List (Nat × D)) (v d : Value) (xs ys : List UInt8) (e : TypeId) (hs : semT kvs = some ys) (hb : b < B) (hc : w.cell? ⟨b, off, none⟩ = some v) (hr : Rep (Lo B) w (.mp kvs) [v]) (hbx : Box w bx [d] e) (hBx : B ≤ bx) (ho : Own w B 5 d xs) (hB : B ≤ w.heap.size) (hne : d.ownBlock ≠ some bx)
  (hl : xs.length + ys.length ≤ lim) :
  Calls Tryz.prog 60 #[.pointer (some ⟨b, off, none⟩), .func (.func 61) #[] #[.pointer (some ⟨bx, 0, none⟩)]] w fun en w' => en = .returned (.tuple #[]) ∧ ∃ d', Box w' bx [d'] e ∧ Own w' B 5 d' (xs ++ ys) ∧ GrewB bx w w' d d' := by
 obtain ⟨m, rfl, hm⟩ := mp_len hr
 refine enter (vs := [.pointer (some ⟨b, off, none⟩), .func (.func 61) #[] #[.pointer (some ⟨bx, 0, none⟩)]]) Tryz.func60 rfl Tryz.ntmps60 rfl ?_
 refine wc_seq (wc_seq (wc_region ?_))
 refine wt rfl rfl ?_
 refine wt rfl rfl ?_
 refine wt rfl rfl ?_
 refine wl_load rfl to_map rfl hc ?_
 refine wl_lenMap rfl um hm rfl ?_
 refine wt rfl rfl ?_
 refine wl_nil (qk_thn ?_)
 by_cases hz : kvs = []
 ·subst hz
  simp only [semT, Option.some.injEq] at hs
  subst hs
  refine wc_yes rfl rfl (wc_ret (qk_thn_ret (qk_ret0 rfl ⟨rfl, d, hbx, by simpa using ho, GrewB.refl _ _ _⟩)))
 have hpos : 0 < kvs.length := List.length_pos_iff.2 hz
 refine wc_no rfl (by simp; omega) (wc_skip (qk_thn ?_))
 simp only [Rep] at hr
 rcases hr with ⟨_, h0⟩ | ⟨r, es, clock, hrm, hrB, hmap, hmapd, hks⟩
 ·exact absurd h0 hz
 simp only [List.cons.injEq, Value.map.injEq, and_true] at hrm
 subst hrm
 rw [repKs_iff] at hks
 have hkeys := semT_keys hs
 have hlen32 : kvs.length ≤ 4294967296 := by
  have := rising_len (kvs.map (·.1)) 0 4294967296 hmapd.2.2.2 (fun x hx => ⟨Nat.zero_le _, hkeys x hx⟩)
  simpa using this
 have hbw : b < w.heap.size := by omega
 have hrw : r < w.heap.size := by have : r < B := hrB; omega
 refine wc_seq (wc_region ?_)
 refine wt rfl rfl ?_
 refine wt rfl rfl ?_
 refine wt rfl rfl ?_
 refine wl_load rfl to_map rfl hc ?_
 refine wl_lenMap rfl um hm rfl ?_
 refine wl_makeRow (B := w.heap.size) (n := kvs.length) rt_u32 rfl (by simp only [many]; omega) rfl (Nat.le_refl _) (fun w1 hrow1 hg1 hs1 => ?_)
 refine wl_alloc zv_u32s rfl rfl (fun w2 hb2 hg2 hs2 => ?_)
 refine wl_storeB rfl rfl to_u32s rfl hb2 rfl (fun w3 hb3' hg3 hs3 => ?_)
 have hb3 : Box w3 w1.heap.size [.slice (some ⟨w.heap.size, 0, none⟩) 0 kvs.length] 121 := hb3'
 clear hb3'
 have hrow3 := Row.kept (Row.kept hrow1 hg2 (.inr (by simp [Value.ownBlock]))) hg3 (.inr (by simp [Value.ownBlock]; omega))
 have hc13 : Chg (fun j => w.heap.size ≤ j) w w3 := ((Chg.grown0 hg1).trans (Chg.grown0 hg2)).trans ((Chg.grown hg3).wide (fun j hj => by have : j = w1.heap.size := hj; omega))
 have hmap3 : w3.heap[r]? = some (.map es clock) := (hc13.block r hrw (by omega)).trans hmap
 have hcell3 : w3.cell? ⟨b, off, none⟩ = some (.map (some r)) := by
  rw [← hc]; simp only [World.cell?, hc13.block b hbw (by omega)]
 refine wl_nil (qk_thn ?_)
 refine wc_seq (wc_seq (wc_region ?_))
 refine wt rfl rfl ?_
 refine wt rfl rfl ?_
 refine wt rfl rfl ?_
 refine wl_load rfl to_map rfl hcell3 ?_
 refine wl_range rfl um hmap3 rfl ?_
 have hit4 : (w3.alloc (.mapIter (some r) clock #[] clock)).heap[w3.heap.size]? = some (.mapIter (some r) clock #[] clock) := heap_alloc_new _ _
 have hs4 : (w3.alloc (.mapIter (some r) clock #[] clock)).heap.size = w3.heap.size + 1 := by simp
 have hg4 := grown_alloc w3 (.mapIter (some r) clock #[] clock)
 generalize w3.alloc (.mapIter (some r) clock #[] clock) = w4 at *
 have hb4 := hb3.kept hg4 (by simp)
 have hrow4 := Row.kept hrow3 hg4 (.inr (by simp [Value.ownBlock]))
 have hc14 : Chg (fun j => w.heap.size ≤ j) w w4 := hc13.trans (Chg.grown0 hg4)
 refine wl_nil (qk_thn ?_)
 refine wc_block (wc_loop (α := List Int × Value × Array Nat × Nat) (fun _ => [(0, .pointer (some ⟨b, off, none⟩)), (1, .func (.func 61) #[] #[.pointer (some ⟨bx, 0, none⟩)]), (4, .pointer (some ⟨w1.heap.size, 0, none⟩)), (24, .pointer (some ⟨w3.heap.size, 0, none⟩))])
  (fun z w' => Box w' w1.heap.size [z.2.1] 121 ∧ w'.ownsRow w.heap.size 62 1 z.2.1 z.1.length (z.1.map encU) ∧ w'.heap[w3.heap.size]? = some (.mapIter (some r) clock z.2.2.1 z.2.2.2) ∧ clock ≤ z.2.2.2 ∧
   (z.1.map encU ++ (leftOf es z.2.2.1).toList.map (·.key)).Perm (es.toList.map (·.key)) ∧ Chg (fun j => w.heap.size ≤ j) w w')
  (fun z => (leftOf es z.2.2.1).size) ([], .slice (some ⟨w.heap.size, 0, none⟩) 0 kvs.length, #[], clock) ⟨rfl, rfl, rfl, rfl, trivial⟩ ⟨hb4, hrow4, hit4, Nat.le_refl _, ?_, hc14⟩ ?_)
 ·simp [leftOf_nil]
 ·rintro ⟨zs, dv, seen, c0⟩ w5 ⟨hb5, hrow5, hit5, hcl5, hperm5, hc5⟩
  simp only [] at hb5 hrow5 hit5 hcl5 hperm5
  have hmap5 : w5.heap[r]? = some (.map es clock) := (hc5.block r hrw (by omega)).trans hmap
  refine wc_seq (wc_region ?_)
  refine wl_next rfl hit5 hmap5 hmapd.2.1.1 hcl5 rfl (fun hleft => ?_) (fun en hen w6 hit6 hc6 hs6 => ?_)
  ·-- nothing is left
   have hl0 : (leftOf es seen).toList = [] := List.length_eq_zero_iff.1 (by simpa using hleft)
   rw [hl0] at hperm5
   simp only [List.map_nil, List.append_nil] at hperm5
   have hzl : zs.length = kvs.length := by
    have := hperm5.length_eq
    simp only [List.length_map, Array.length_toList] at this
    rw [this, hmapd.1, List.length_map]
   obtain ⟨g, cap, rfl, hBg, hglt, _⟩ := Row.cells hrow5 (by omega)
   obtain ⟨cur, hcur⟩ := row_block (g := g) hrow5 rfl
   have hog : w1.heap.size ≠ g := by
    intro e'
    have h1 : w5.heap[w1.heap.size]? = some (.cells cur 62 (0, 0)) := by rw [e']; exact hcur
    have h2 := hb5
    simp only [Box, h1, Option.some.injEq, Obj.cells.injEq] at h2
    exact ne_u32s h2.2.1.symm
   refine wl_extract rfl rfl rfl ?_
   repeat (with_reducible first|apply wc_seq|apply wl_nil|apply qk_thn)
   refine wc_no rfl rfl ?_
   repeat (with_reducible first|apply wc_seq|apply wc_region|apply qk_thn|apply wc_exit|apply qk_thn_exit|apply qk_in_exit|apply qk_round_exit)
   refine wl_loadB rfl to_u32s rfl hb5 rfl ?_
   refine wl_makeIface rfl un_u32s rfl ?_
   refine wl_makeFunc (caps := [.tmp 4]) rfl rfl ?_
   refine wl_call rfl (by kernel_rfl) rfl ((fn_sort w5 w.heap.size g cap w1.heap.size _ zs (by omega) hb5 hrow5 hog).mono ?_)
   rintro en w6 ⟨rfl, zs', hp', hso', hcs6, hc6⟩
   refine ⟨_, rfl, ?_⟩
   have hzz : zs' = (kvs.map (·.1)).map (fun k : Nat => (k : Int)) := keys_sorted hmapd (fun k hk => by
    obtain ⟨kv, hkv, rfl⟩ := List.mem_map.1 hk
    obtain ⟨x, hx, hxk, _⟩ := hks kv hkv
    exact ⟨x, hx, hxk⟩) hperm5 hp' hso'
   subst hzz
   have hc06 : Chg (fun j => w.heap.size ≤ j) w w6 := hc5.trans (hc6.wide (fun j hj => by have : j = g := hj; omega))
   have hw6 : Below w.heap.size w w6 := ⟨hc06.os, hc06.tape, hc06.output, hc06.size, fun k hk => hc06.block k hk (by omega)⟩
   have hb6 := hb5.chg hc6 hog
   have hbx6 := hbx.chg hc06 (by have := hbx.lt; omega)
   have ho6 := Own.under ho hw6
   repeat (with_reducible first|apply wc_seq|apply wc_region|apply wl_nil|apply qk_thn)
   refine wl_loadB rfl to_u32s rfl hb6 rfl ?_
   refine wl_len rfl el_u32s rfl ?_
   repeat first|(with_reducible first|apply wl_nil|apply qk_thn|apply wc_block)|((with_reducible apply ws);exact rfl;exact rfl)
   refine wc_loop (α := Nat × Value) (fun z => [(0, .pointer (some ⟨b, off, none⟩)), (1, .func (.func 61) #[] #[.pointer (some ⟨bx, 0, none⟩)]), (37, .slice (some ⟨g, 0, none⟩) zs.length cap), (38, .int .i64 (zs.length : Int)), (39, .int .i64 (z.1 : Int))])
    (fun z w' => z.1 ≤ kvs.length ∧ Box w' bx [z.2] e ∧ (∃ pre, semT (kvs.take z.1) = some pre ∧ Own w' B 5 z.2 (xs ++ pre)) ∧ GrewB bx w6 w' d z.2)
    (fun z => kvs.length - z.1) (0, d) ⟨rfl, rfl, rfl, rfl, rfl, trivial⟩ ⟨Nat.zero_le _, hbx6, ⟨[], by simp [semT], by simpa using ho6⟩, GrewB.refl _ _ _⟩ ?_
   rintro ⟨i, di⟩ w7 ⟨hin, hb7, ⟨pre, hpre, ho7⟩, hG7⟩
   simp only [] at hin hb7 hpre ho7 hG7
   have hs7 := hG7.chg.size
   have hs6 := hc06.size
   repeat first|(with_reducible first|apply wc_seq|apply wc_region|apply wl_nil|apply qk_thn)|((with_reducible apply ws);exact rfl;exact rfl)
   by_cases hi : i < kvs.length
   ·refine wc_yes rfl (by simp; omega) ?_
    repeat (with_reducible first|apply wc_seq|apply wc_region|apply qk_thn|apply wc_block|apply wc_skip)
    obtain ⟨pre', cs, post, k1, k2, k3, k4, k5, k6⟩ := semT_at kvs ys hs i hi
    rw [hpre] at k1
    simp only [Option.some.injEq] at k1
    subst k1
    have hkeep : ∀ j, j < w.heap.size → j ≠ bx → (B ≤ j → d.ownBlock ≠ some j) → w7.heap[j]? = w.heap[j]? := fun j hj h1 h2 => by
     rw [hG7.chg.block j (by omega) (fun h => by
      rcases h with h | h
      ·exact h1 h
      ·exact h2 (ho.ge j h) h)]
     exact hc06.block j hj (by omega)
    have hgk : w7.heap[g]? = w6.heap[g]? := hG7.chg.block g (by have := hc6.size; omega) (fun h => by
     rcases h with h | h
     ·have := hbx.lt; omega
     ·have := ho.lt g h; omega)
    refine wl_indexAddr rfl rfl es_u32s rfl (by omega) ?_
    refine wl_load rfl to_u32 rfl (v := .int .u32 ((kvs[i].1 : Nat) : Int)) ?_ ?_
    ·have h1 := (hcs6.of_block hgk).cell (i := i) (v := encU ((kvs[i].1 : Nat) : Int)) (by simp [hi])
     rw [Nat.mul_one]; exact h1
    repeat first|(with_reducible first|apply wc_region|apply wl_nil|apply qk_thn)|((with_reducible apply ws);exact rfl;exact rfl)
    refine wt rfl rfl ?_
    refine wl_load rfl to_map rfl (v := .map (some r)) ?_ ?_
    ·rw [← hc]
     show w7.cell? ⟨b, off, none⟩ = _
     simp only [World.cell?, hkeep b hbw (by omega) (fun h => by omega)]
    have hrB' : r < B := hrB
    have hmap7 : w7.heap[r]? = some (.map es clock) := (hkeep r hrw (by omega) (fun h => by omega)).trans hmap
    have hkin : kvs[i] ∈ kvs := List.getElem_mem hi
    obtain ⟨x0, hx0, hx0k, hx0r⟩ := hks kvs[i] hkin
    repeat ((with_reducible apply ws);exact rfl;exact rfl)
    refine wl_lookup rfl rfl um uk hmap7 hmapd ⟨x0, hx0, hx0k⟩ rfl (fun en hen hek => ?_)
    obtain rfl : en = x0 := nodup_one (·.key) es.toList hmapd.2.1.2.2 en (Array.mem_toList_iff.2 hen) x0 (Array.mem_toList_iff.2 hx0) (by rw [hek, hx0k])
    obtain ⟨s0, hs0, hbs0⟩ := Option.bind_eq_some_iff.1 k2
    have hsrc : Src w B en.val cs := srcOf (n := s0.1) (ds := s0.2) hs0 hbs0 (arOf hs0 hx0r)
    have hsrc7 : Src w7 B en.val cs := Src.chg (Src.chg hsrc hc06 (fun j hj => by omega) (by omega)) hG7.chg (fun j hj h => by
     rcases h with h | h
     ·omega
     ·have := ho.ge j h; omega) (by omega)
    have hll : (xs ++ pre).length + (uvar kvs[i].1 ++ uvar cs.length ++ cs).length ≤ lim := by
     rw [k6] at hl
     simp only [List.length_append] at hl ⊢
     omega
    refine wl_callV (vs := [.int .u32 ((kvs[i].1 : Nat) : Int), en.val]) (bs := [.pointer (some ⟨bx, 0, none⟩)]) (args := [.tmp 44, .tmp 50]) rfl rfl (by kernel_rfl) rfl ((fn_put1 w7 bx B kvs[i].1 en.val di (xs ++ pre) cs e hb7 hBx ho7 (by omega) (hG7.ne hne (by have := hbx.lt; omega)) hsrc7 k3 k4 hll).mono ?_)
    rintro en' w8 ⟨rfl, d8, hb8, ho8, hG8⟩
    refine ⟨_, rfl, ?_⟩
    repeat (with_reducible first|apply wc_region|apply wl_nil|apply qk_thn|apply qk_in)
    refine wl_add rfl rfl rfl (r := ((i + 1 : Nat) : Int)) (by rw [IntKind.wrap_i64]; omega) ?_
    repeat first|(with_reducible apply wl_nil)|((with_reducible apply ws);exact rfl;exact rfl)
    refine qk_round (i + 1, d8) ⟨rfl, rfl, rfl, rfl, rfl, trivial⟩ ⟨hi, hb8, ⟨_, k5, by simpa [List.append_assoc] using ho8⟩, hG7.trans hG8⟩ (by show kvs.length - (i + 1) < kvs.length - i; omega)
   ·refine wc_no rfl (by simp; omega) ?_
    repeat (with_reducible first|apply wc_exit|apply qk_thn_exit|apply qk_in_exit|apply qk_round_exit)
    have hie : i = kvs.length := by omega
    rw [hie, List.take_length, hs] at hpre
    simp only [Option.some.injEq] at hpre
    subst hpre
    refine qk_end0 rfl ⟨rfl, di, hb7, ho7, ?_⟩
    refine ⟨⟨hG7.chg.os.trans hc06.os, hG7.chg.tape.trans hc06.tape, hG7.chg.output.trans hc06.output, by omega, fun k hk hn => (hG7.chg.block k (by omega) hn).trans (hc06.block k hk (by omega))⟩, ?_⟩
    rcases hG7.fresh with h | h
    ·exact .inl h
    ·exact .inr (fun q hq => by have := h q hq; omega)
  ·-- one more key
   have hen' : en ∈ es.toList := by
    simp only [leftOf, Array.toList_filter, List.mem_filter] at hen
    exact hen.1
   obtain ⟨k, _, hek⟩ := hmapd.2.2.1 en hen'
   have hpush := leftOf_push hen hmapd.2.1.2.1
   have hzle : zs.length < es.size := by
    have h1 := hperm5.length_eq
    have h2 := hpush.length_eq
    simp only [List.length_append, List.length_map, Array.length_toList, List.length_cons] at h1 h2
    omega
   have hes : es.size = kvs.length := by rw [hmapd.1, List.length_map]
   have hs5 := hc5.size
   have hits : w3.heap.size < w5.heap.size := (Array.getElem?_eq_some_iff.1 hit5).1
   have hne5 : dv.ownBlock ≠ some w3.heap.size := by
    intro h
    obtain ⟨cur, hcur⟩ := row_block hrow5 h
    rw [hcur] at hit5; cases hit5
   have hno5 : dv.ownBlock ≠ some w1.heap.size := by
    intro h
    obtain ⟨cur, hcur⟩ := row_block hrow5 h
    have h2 := hb5
    simp only [Box, hcur, Option.some.injEq, Obj.cells.injEq] at h2
    exact ne_u32s h2.2.1.symm
   have hib : w1.heap.size ≠ w3.heap.size := by omega
   have hb6 := hb5.chg hc6 (fun h : w1.heap.size = w3.heap.size => hib h)
   have hg6 : w5.grownBy w6 (some w3.heap.size) := ⟨hc6.os, hc6.tape, hc6.output, hc6.size, fun j hj hn => hc6.block j hj (fun h => hn (by rw [h]))⟩
   have hrow6 := Row.kept hrow5 hg6 (.inr hne5)
   have hmap6 : w6.heap[r]? = some (.map es clock) := (hc6.block r (by omega) (fun h : r = w3.heap.size => by omega)).trans hmap5
   refine wl_extract rfl rfl rfl ?_
   repeat (with_reducible first|apply wc_seq|apply wl_nil|apply qk_thn)
   refine wc_yes rfl rfl ?_
   repeat (with_reducible first|apply wc_seq|apply wc_region|apply qk_thn|apply wc_block|apply wc_skip)
   refine wl_entry rfl hit6 hmap6 hen' hmapd.2.1.2.1 rfl ?_
   rw [hek]
   refine wl_extract rfl rfl rfl ?_
   repeat first|(with_reducible first|apply wc_region|apply wl_nil|apply qk_thn)|((with_reducible apply ws);exact rfl;exact rfl)
   refine wl_loadB rfl to_u32s rfl hb6 rfl ?_
   repeat ((with_reducible apply ws);exact rfl;exact rfl)
   refine wl_app1 (v := .int .u32 (k : Int)) (cs := [.int .u32 (k : Int)]) (dv := dv) (xs := zs.map encU) (n := zs.length) rt_u32 rfl rfl rfl rfl rfl rfl rfl rfl hrow6 (by omega) (by simp only [many]; omega) (fun d7 w7 hrow7 hg7 => ?_)
   have hb7 := hb6.kept hg7.grown (fun h => hno5 h.symm)
   have hit7 : w7.heap[w3.heap.size]? = some (.mapIter (some r) clock (seen.push en.born) clock) := (hg7.grown.block _ (by omega) (fun h => hne5 h.symm)).trans hit6
   obtain ⟨a7, c7, hd7⟩ := Row.shape hrow7
   refine wl_storeB rfl rfl to_u32s (by rw [hd7]; rfl) hb7 rfl (fun w8 hb8 hg8 hs8 => ?_)
   have hno7 : d7.ownBlock ≠ some w1.heap.size := by
    intro h
    obtain ⟨cur, hcur⟩ := row_block hrow7 h
    have h2 := hb7
    simp only [Box, hcur, Option.some.injEq, Obj.cells.injEq] at h2
    exact ne_u32s h2.2.1.symm
   have hrow8 := Row.kept hrow7 hg8 (.inr hno7)
   have hit8 : w8.heap[w3.heap.size]? = some (.mapIter (some r) clock (seen.push en.born) clock) := (hg8.block _ (by have := hg7.grown.size; omega) (fun h => hib (by simpa using h.symm))).trans hit7
   have hge := Row.ge hrow5
   have hc8 : Chg (fun j => w.heap.size ≤ j) w w8 := ((hc5.trans (hc6.wide (fun j hj => by have : j = w3.heap.size := hj; omega))).trans
    (⟨hg7.grown.os, hg7.grown.tape, hg7.grown.output, hg7.grown.size, fun j hj hn => hg7.grown.block j hj (fun h => hn (hge j h.symm))⟩ : Chg (fun j => w.heap.size ≤ j) w6 w7)).trans ((Chg.grown hg8).wide (fun j hj => by have : j = w1.heap.size := hj; omega))
   repeat (with_reducible first|apply wl_nil|apply qk_in)
   refine qk_round (zs ++ [(k : Int)], d7, seen.push en.born, clock) ⟨rfl, rfl, rfl, rfl, trivial⟩ ⟨hb8, ?_, hit8, Nat.le_refl _, ?_, hc8⟩ ?_
   ·simpa using hrow8
   ·refine List.Perm.trans ?_ hperm5
    simp only [List.map_append, List.map_cons, List.map_nil, List.append_assoc, List.cons_append, List.nil_append]
    refine List.Perm.append_left _ ?_
    have := (hpush.map (·.key)).symm
    simpa [hek, encU] using this
   ·have h2 := hpush.length_eq
    simp only [Array.length_toList, List.length_cons] at h2
    show (leftOf es (seen.push en.born)).size < (leftOf es seen).size
    omega
theorem teachOk (tlen : Nat) (ver : Int) : TeachOk Tryz.prog 5 (kt tlen 43 ver) := by
 intro _ kvs b off v ys d w B xs hs hb hc hr ho hB hl
 refine enter (vs := [.pointer (some ⟨b, off, none⟩), d]) Tryz.func43 rfl Tryz.ntmps43 rfl ?_
 obtain ⟨da, dc, hd⟩ := ho.shape
 repeat (with_reducible first|apply wc_seq|apply wc_region)
 refine wl_box1 (cs := [d]) rfl (by rw [hd]; rfl) rfl (fun w1 hb1 hg1 hs1 => ?_)
 have hw1 : Below w.heap.size w w1 := below_of hg1 (Nat.le_refl _) (by simp)
 have hc1 : w1.cell? ⟨b, off, none⟩ = some v := by rw [← hc]; simp only [World.cell?, hw1.block b (by omega)]
 have hr1 : Rep (Lo B) w1 (.mp kvs) [v] := Rep.below hr (hw1.mono hB) (Nat.le_refl _)
 have ho1 := Own.under ho hw1
 repeat first|(with_reducible first|apply wc_seq|apply wc_region|apply wl_nil|apply qk_thn)|((with_reducible apply ws);exact rfl;exact rfl)
 refine wl_makeFunc (caps := [.tmp 3]) rfl rfl ?_
 refine wl_call rfl (by kernel_rfl) rfl ((fn_each w1 w.heap.size B b off kvs v d xs ys _ hs hb hc1 hr1 hb1 hB ho1 (by omega) (fun e => by have := ho.lt _ e; omega) hl).mono ?_)
 rintro en w2 ⟨rfl, d2, hb2, ho2, hG2⟩
 refine ⟨_, rfl, ?_⟩
 repeat (with_reducible first|apply wc_seq|apply wc_region|apply wl_nil|apply qk_thn)
 refine wl_loadB rfl to_bytes rfl hb2 rfl ?_
 repeat first|(with_reducible first|apply wl_nil|apply qk_thn|apply wc_ret)|((with_reducible apply ws);exact rfl;exact rfl)
 refine qk_ret1 rfl rfl ⟨d2, rfl, ho2, ⟨⟨hG2.chg.os.trans hw1.os, hG2.chg.tape.trans hw1.tape, hG2.chg.output.trans hw1.output, by have := hG2.chg.size; omega, fun k hk hn => ?_⟩, ?_⟩⟩
 ·rw [hG2.chg.block k (by omega) (fun h => by
   rcases h with h | h
   ·omega
   ·exact hn h.symm)]
  exact hw1.block k hk
 ·rcases hG2.fresh with h | h
  ·exact .inl h
  ·exact .inr (fun q hq => by have := h q hq; omega)
end Go.Proofs.YtgpnpfiafcakfaaGreat.Rdk

namespace Go.Proofs.YtgpnpfiafcakfaaGreat
open Go Go.RowKit
def tmpOf (r : Array ResultVar) : Option Nat := match r with
 | ⟨[.tmp u]⟩ => some u
 | _ => none
theorem tmpOf_out {r : Array ResultVar} {t : Nat} (h : tmpOf r = some t) : r = #[.tmp t] := by
 unfold tmpOf at h
 split at h
 ·cases h; rfl
 ·cases h
def appRun (P : Program) (K : Kt) (u8 f : Nat) (sh : List Ck) : Option (Option Sy × List Out × Bool) := match P.funcs[f]? with
 | some fn => (match fn.body, tmpOf fn.results with
  | some c, some r => bif isFn P f && Nat.ble 2 fn.ntmps then (match runS P K fn.ntmps u8 4000 [sh] [] ([(0, .at_ 0 0)], [1]) c with
   | some x => some (evS x.1 (.tmp r), x.2.1, x.2.2)
   | none => none) else none
  | _, _ => none)
 | none => none
theorem app_ok {P : Program} {K : Kt} {u8 f : Nat} {sh : List Ck} {os : List Out} (hT : TlenOk P K) (hK : FnsOk P u8 K) (hE : TeachOk P u8 K) (h : appRun P K u8 f sh = some (some .dst, os, true)) {B b : Nat} {w : World} {cs : List Value} {ds : List D} {d : Value} {xs ys : List UInt8}
  (hit : ItOk B w ⟨b, 0, 0, cs, ds⟩) (hsh : shDs ds = sh) (hver : cs[0]? = some K.ver) (ho : Own w B u8 d xs) (hB : B ≤ w.heap.size) (hs : semL [ds] os = some ys) (hl : xs.length + ys.length ≤ lim) :
  isFn P f = true ∧ Calls P f #[.pointer (some ⟨b, 0, none⟩), d] w fun e w' => ∃ d', e = .returned d' ∧ Own w' B u8 d' (xs ++ ys) ∧ Grew w w' d d' := by
 unfold appRun at h
 split at h
 ·rename_i fn hfn
  split at h
  ·rename_i c r hbody hres
   cases hc : isFn P f && Nat.ble 2 fn.ntmps with
   | false => rw [hc] at h; cases h
   | true =>
    rw [hc] at h
    simp only [cond_true] at h
    rw [Bool.and_eq_true] at hc
    have hn : 2 ≤ fn.ntmps := Nat.le_of_ble_eq_true hc.2
    split at h
    ·rename_i x hx
     simp only [Option.some.injEq, Prod.mk.injEq] at h
     obtain ⟨h1, h2, h3⟩ := h
     refine ⟨hc.1, calls_of_wp hfn hbody ?_⟩
     have hrun := runS_ok (B := B) hT hK hE _ _ _ _ _ x.1 x.2.1 x.2.2 (by rw [hx])
     refine hrun [⟨b, 0, 0, cs, ds⟩] _ w d xs ys _ (by simp) ⟨?_, ?_, ?_, ?_⟩ (fun q hq => by cases hq) ho hB (by rw [h2]; simpa using hs) hl ?_
     ·refine ⟨by simp; omega, rfl, fun t s e => ?_, fun t e => ?_⟩
      ·simp only [lkS] at e
       cases hb : Nat.beq 0 t with
       | false => rw [hb] at e; cases e
       | true =>
        rw [hb] at e
        have := beq_out hb; subst this
        simp only [cond_true, Option.some.injEq] at e
        subst e
        simp only [den, gt, Array.getD_eq_getD_getElem?]
        rw [Array.getElem?_append_left (by simp)]; rfl
      ·have : 1 = t := by simpa [memN] using e
       subst this
       simp only [gt, Array.getD_eq_getD_getElem?]
       rw [Array.getElem?_append_left (by simp)]; rfl
     ·intro it hi; simp at hi; subst hi; exact hit
     ·refine ⟨rfl, fun k x hx => ?_⟩
      cases k with
      | zero => simp at hx; subst hx; simp [hsh]
      | succ k => simp at hx
     ·intro it hi; simp at hi; subst hi; exact hver
     ·intro a' w' d' H' ho' hg'
      rw [h3]
      have hd := (H'.kn.eval h1).1 rfl
      refine ⟨H'.kn.defers, d', ?_, d', rfl, ho', hg'⟩
      rw [results_tmp (tmpOf_out hres)]
      rw [eval_tmp] at hd
      simp only [gt] at hd
      rw [hd]
    ·cases h
  ·cases h
 ·cases h
end Go.Proofs.YtgpnpfiafcakfaaGreat

namespace Go.Proofs.YtgpnpfiafcakfaaGreat
open Go Go.RowKit
end Go.Proofs.YtgpnpfiafcakfaaGreat

namespace Go.Proofs.YtgpnpfiafcakfaaGreat
open Go Go.RowKit
def apartC (ops : List Oper) (L : Sl) (ch : List Nat) : Bool :=
 (ch.all fun c => match dstOf ops c with | some d => (lk L d).isNone && (ch.all fun c' => Nat.beq c' c || dstOf ops c' != some d) | none => true)
end Go.Proofs.YtgpnpfiafcakfaaGreat

namespace Go.Proofs.YtgpnpfiafcakfaaGreat
open Go Go.RowKit
theorem wc_poN {P : Program} {Q : Exit → Act → World → Prop} {N : Nat} {L : Sl} {w : World} {id : Nat} {ops : List Oper} (fl : List (Nat × Value)) (ch : List Nat) (C : List (Nat × Value) → World → Prop)
  (hm : P.follows .mixedOrders = true) (hac : acyc ops = true) (hap : apart ops L fl ch = true) (hapc : apartC ops L ch = true) (hcv : covered ops fl ch = true)
  (hdisj : (fl.all fun p => !ch.contains p.1) = true) (hflt : (fl.all fun p => Nat.blt p.1 ops.length) = true) (hfnd : (fl.map (·.1)).Nodup) (hlt : (ch.all fun c => Nat.blt c ops.length) = true)
  (hdst : (ops.all fun o => match o.dst with | some d => Nat.blt d N | none => true) = true) (hgd : (ch.all fun c => gOk ops fl c) = true)
  (h0 : C [] w.drew)
  (hfl : ∀ p ∈ fl, ∀ dn w', C dn w' → (∀ c v, (c, v) ∈ dn → p.1 ∉ predsOf ops c) → ∀ a, Kn N a (flL ops (fun j => (predsOf ops p.1).contains j) fl ++ L) → Gives P ops p.1 p.2 a w')
  (hch : ∀ c ∈ ch, ∀ dn w', C dn w' → (∀ v, (c, v) ∉ dn) → (∀ j ∈ predsOf ops c, ch.contains j = true → ∃ v, (j, v) ∈ dn) → ∀ a, Kn N a (flL ops (fun j => (predsOf ops c).contains j) fl ++ L) →
   (∀ j v d, (j, v) ∈ dn → dstOf ops j = some d → gt a d = v) → ∃ o, ops[c]? = some o ∧ Does P o a w' fun v w'' => C ((c, v) :: dn) w'')
  (hend : ∀ dn w', C dn w' → (∀ c ∈ ch, ∃ v, (c, v) ∈ dn) → ∀ a, Kn N a (flL ops (fun _ => true) fl ++ L) → (∀ j v d, (j, v) ∈ dn → dstOf ops j = some d → gt a d = v) → Q .normal a w') : WC (.region id ops.toArray true) P Q N L w := by
 intro a0 k0
 refine wp_region_any hm ?_
 have main : ∀ fuel (l : Array Bool) (a : Act) (w' : World), l.size = ops.length → unl l = fuel →
   (∀ j, l.getD j false = true → ∀ q ∈ predsOf ops j, l.getD q false = true) → (∃ dn, (∀ j v, (j, v) ∈ dn → l.getD j false = true ∧ j ∈ ch) ∧ (∀ c ∈ ch, l.getD c false = true → ∃ v, (c, v) ∈ dn) ∧ C dn w' ∧ Kn N a L ∧ (∀ j v d, (j, v) ∈ dn → dstOf ops j = some d → gt a d = v) ∧
    (∀ p ∈ fl, l.getD p.1 false = true → ∀ d, dstOf ops p.1 = some d → gt a d = p.2)) → wpAny P .any ops.toArray Q fuel l a w' := by
  intro fuel
  induction fuel with
  | zero =>
   rintro l a w' hsz hu hpl ⟨dn, hdl, hld, hC, hK, hD, hF⟩
   have hall : ∀ i, i < ops.length → l.getD i false = true := fun i hi => unl_zero hu (by rw [hsz]; exact hi)
   refine ⟨?_, hend dn w' hC (fun c hc => hld c hc (hall c (Nat.le_of_ble_eq_true (List.all_eq_true.1 hlt c hc)))) a (by simpa using hK.mix (A := []) (flL_true fl (fun p hp _ d hd => hF p hp (hall _ (Nat.le_of_ble_eq_true (List.all_eq_true.1 hflt p hp))) d hd))) hD⟩
   cases hr : Region.ready .any ops.toArray l with
   | nil => rfl
   | cons i r =>
    exfalso
    obtain ⟨h1, h2, _⟩ := ready_spec (ops := ops.toArray) (l := l) (i := i) (by rw [hr]; simp)
    have h3 := hall i (by simpa using h1)
    simp only [Array.getD_eq_getD_getElem?] at h2 h3
    cases hy : l[i]? with
    | none => rw [hy] at h3; simp at h3
    | some b => rw [hy] at h2 h3; simp at h2 h3; rw [h3] at h2; cases h2
  | succ fuel ih =>
   rintro l a w' hsz hu hpl ⟨dn, hdl, hld, hC, hK, hD, hF⟩
   refine ⟨fun hnil => ?_, fun i hi => ?_⟩
   ·exfalso
    obtain ⟨i, hi, hli⟩ := unl_pos (l := l) (by omega)
    exact ready_ne (ops := ops.toArray) (by simpa using hac) (by simpa using hsz) ⟨i, by simp; omega, hli⟩ hnil
   ·obtain ⟨h1, h2, h3⟩ := ready_spec hi
    simp only [List.size_toArray] at h1
    have h3' : ∀ j ∈ predsOf ops i, l.getD j false = true := h3
    have hil : i < l.size := by omega
    have hu' : unl (l.setIfInBounds i true) = fuel := by have := unl_set hil h2; omega
    have hsz' : (l.setIfInBounds i true).size = ops.length := by simpa using hsz
    have ho : ops[i]? = some ops[i] := List.getElem?_eq_getElem h1
    have hoA : (ops.toArray)[i]? = some ops[i] := by simp
    have hdo : dstOf ops i = ops[i].dst := by simp [dstOf, ho]
    have hcov := List.all_eq_true.1 hcv i (List.mem_range.2 h1)
    have hni : l.getD i false = true → False := by
     intro h4
     simp only [Array.getD_eq_getD_getElem?, Array.getElem?_eq_getElem hil, Option.getD_some] at h2 h4
     rw [h4] at h2; cases h2
    have hup : ∀ j, l.getD j false = true → (l.setIfInBounds i true).getD j false = true := by
     intro j hj
     rw [getD_set hil]
     split
     ·rfl
     ·exact hj
    have hpl' : ∀ j, (l.setIfInBounds i true).getD j false = true → ∀ q ∈ predsOf ops j, (l.setIfInBounds i true).getD q false = true := by
     intro j hj q hq
     rw [getD_set hil] at hj
     split at hj
     ·rename_i e; subst e; exact hup _ (h3' q hq)
     ·exact hup _ (hpl j hj q hq)
    have hpreds : ∀ q ∈ flL ops (fun j => (predsOf ops i).contains j) fl, gt a q.1 = q.2 :=
     flL_true fl (fun p hp hS d hd => hF p hp (h3' p.1 (by simpa using hS)) d hd)
    have hKm : Kn N a (flL ops (fun j => (predsOf ops i).contains j) fl ++ L) := by simpa using hK.mix (A := []) hpreds
    by_cases hic : i ∈ ch
    ·-- one that acts
     have hd : Does P ops[i] a w' fun v w'' => C ((i, v) :: dn) w'' := by
      obtain ⟨o, ho2, hd2⟩ := hch i hic dn w' hC (fun v hv => hni (hdl i v hv).1) (fun j hj hjc => hld j (by simpa using hjc) (h3' j hj)) a hKm hD
      rw [ho] at ho2; cases ho2; exact hd2
     have hwt := gOk_out (List.all_eq_true.1 hgd i hic) ho hpreds
     have hac2 := List.all_eq_true.1 hapc i hic
     unfold wpOp
     rw [hoA]
     simp only [hwt, if_true]
     refine .inl (hd _ _ (fun v w'' hv => ih _ _ _ hsz' hu' hpl' ⟨(i, v) :: dn, ?_, ?_, hv, ?_, ?_, ?_⟩))
     ·intro j u hj
      rcases List.mem_cons.1 hj with h | h
      ·cases h; exact ⟨by rw [getD_set hil, if_pos rfl], hic⟩
      ·exact ⟨hup _ (hdl j u h).1, (hdl j u h).2⟩
     ·intro c hc hl
      by_cases e : c = i
      ·exact ⟨v, by rw [e]; simp⟩
      ·rw [getD_set hil, if_neg e] at hl
       obtain ⟨u, hu2⟩ := hld c hc hl
       exact ⟨u, by simp [hu2]⟩
     ·cases hdd : ops[i].dst with
      | none => exact hK
      | some d =>
       rw [hdo, hdd] at hac2
       simp only [Bool.and_eq_true] at hac2
       exact hK.putOther _ (by simpa using hac2.1)
     ·intro j u d hj hd2
      cases hdd : ops[i].dst with
      | none =>
       rcases List.mem_cons.1 hj with h | h
       ·cases h; rw [hdo, hdd] at hd2; cases hd2
       ·exact hD j u d h hd2
      | some d' =>
       have hlt' : Nat.blt d' N = true := by
        have := List.all_eq_true.1 hdst ops[i] (by simp)
        rw [hdd] at this; exact this
       rcases List.mem_cons.1 hj with h | h
       ·cases h
        rw [hdo, hdd] at hd2
        cases hd2
        exact gt_put_same _ _ _ (by rw [hK.size]; exact Nat.le_of_ble_eq_true hlt')
       ·rw [gt_put_ne]
        ·exact hD j u d h hd2
        ·rintro rfl
         rw [hdo, hdd] at hac2
         simp only [Bool.and_eq_true] at hac2
         have h7 := List.all_eq_true.1 hac2.2 j (hdl j u h).2
         rw [hd2] at h7
         simp only [bne_self_eq_false, Bool.or_false] at h7
         have := beq_out h7
         subst this
         exact hni (hdl j u h).1
     ·intro p hp hl d hd
      rw [getD_set hil] at hl
      have hne : p.1 ≠ i := by
       rintro rfl
       have := List.all_eq_true.1 hdisj p hp
       simp at this; exact this hic
      rw [if_neg hne] at hl
      have h5 := hF p hp hl d hd
      have h6 := List.all_eq_true.1 hap p hp
      rw [hd] at h6
      simp only [Bool.and_eq_true] at h6
      have h7 := List.all_eq_true.1 h6.1.2 i hic
      rw [hdo] at h7
      cases hdd : ops[i].dst with
      | none => exact h5
      | some d' =>
       rw [hdd] at h7
       rw [gt_put_ne]
       ·exact h5
       ·rintro rfl; simp at h7
    ·-- one that only reads
     have hif : ∃ p ∈ fl, p.1 = i := by
      rw [Bool.or_eq_true] at hcov
      rcases hcov with h | h
      ·obtain ⟨p, hp, hb⟩ := List.any_eq_true.1 h
       exact ⟨p, hp, beq_out hb⟩
      ·exact absurd (by simpa using h) hic
     obtain ⟨p, hp, rfl⟩ := hif
     have hgv := hfl p hp dn w' hC (fun c v hcv hpc => hni (hpl c (hdl c v hcv).1 p.1 hpc)) a hKm
     have h6 := List.all_eq_true.1 hap p hp
     have hJ : ∀ a', (a' = a.put ops[p.1].dst p.2) → wpAny P .any ops.toArray Q fuel (l.setIfInBounds p.1 true) a' w' := by
      rintro a' rfl
      refine ih _ _ _ hsz' hu' hpl' ⟨dn, fun j u hj => ⟨hup _ (hdl j u hj).1, (hdl j u hj).2⟩, ?_, hC, ?_, ?_, ?_⟩
      ·intro c hc hl
       rw [getD_set hil, if_neg (by rintro rfl; exact hic hc)] at hl
       exact hld c hc hl
      ·cases hdd : ops[p.1].dst with
       | none => exact hK
       | some d =>
        rw [hdo, hdd] at h6
        simp only [Bool.and_eq_true] at h6
        exact hK.putOther _ (by simpa using h6.1.1)
      ·intro j u d hj hd2
       cases hdd : ops[p.1].dst with
       | none => exact hD j u d hj hd2
       | some d' =>
        rw [gt_put_ne]
        ·exact hD j u d hj hd2
        ·rintro rfl
         rw [hdo, hdd] at h6
         simp only [Bool.and_eq_true] at h6
         have h7 := List.all_eq_true.1 h6.1.2 j (hdl j u hj).2
         rw [hd2] at h7; simp at h7
      ·intro q hq hl d hd
       rw [getD_set hil] at hl
       by_cases e : q.1 = p.1
       ·have hqp : q = p := by
         have : ∀ (l : List (Nat × Value)), (l.map (·.1)).Nodup → ∀ x ∈ l, ∀ y ∈ l, x.1 = y.1 → x = y := by
          intro l
          induction l with
          | nil => intro _ x hx; cases hx
          | cons z l ih2 =>
           intro hn x hx y hy he
           simp only [List.map_cons, List.nodup_cons, List.mem_map] at hn
           rcases List.mem_cons.1 hx with hx1 | hx1 <;> rcases List.mem_cons.1 hy with hy1 | hy1
           ·rw [hx1, hy1]
           ·exact absurd ⟨_, hy1, by rw [← he, hx1]⟩ hn.1
           ·exact absurd ⟨_, hx1, by rw [he, hy1]⟩ hn.1
           ·exact ih2 hn.2 x hx1 y hy1 he
         exact this fl hfnd q hq p hp e
        subst hqp
        rw [hdo] at hd
        rw [hd, gt_put_same]
        have hlt' : Nat.blt d N = true := by
         have := List.all_eq_true.1 hdst ops[q.1] (by simp)
         rw [hd] at this; exact this
        rw [hK.size]; exact Nat.le_of_ble_eq_true hlt'
       ·rw [if_neg e] at hl
        have h5 := hF q hq hl d hd
        cases hdd : ops[p.1].dst with
        | none => exact h5
        | some d' =>
         rw [gt_put_ne]
         ·exact h5
         ·rintro rfl
          rw [hdo, hdd] at h6
          simp only [Bool.and_eq_true] at h6
          have h7 := List.all_eq_true.1 h6.2 q hq
          simp only [Bool.or_eq_true] at h7
          rcases h7 with h7 | h7
          ·exact e (beq_out h7)
          ·rw [hd] at h7; simp at h7
     unfold wpOp
     rw [hoA]
     simp only []
     simp only [Gives, ho] at hgv
     rcases hgv with ⟨hwt, hr⟩ | ⟨hwt, hv⟩
     ·rw [if_pos hwt]
      refine .inl ?_
      unfold Oper.wp
      rw [hr]
      exact hJ _ rfl
     ·rw [if_neg (by rw [hwt]; simp)]
      exact hJ _ (by rw [hv])
 refine main _ _ _ _ (by simp) ?_ ?_ ⟨[], by simp, ?_, h0, k0, by simp, ?_⟩
 ·simp [unl, List.countP_replicate]
 ·intro j hl
  exfalso
  simp only [Array.getD_eq_getD_getElem?, Array.getElem?_replicate] at hl
  split at hl <;> simp at hl
 ·intro c hc hl
  exfalso
  simp only [Array.getD_eq_getD_getElem?, Array.getElem?_replicate] at hl
  split at hl <;> simp at hl
 ·intro p hp hl
  exfalso
  simp only [Array.getD_eq_getD_getElem?, Array.getElem?_replicate] at hl
  split at hl <;> simp at hl
def prs (fl : Bool) (ops : List Oper) (i : Nat) : List Nat := if fl then predsOf ops i else List.range i
def regOk (fl : Bool) (N : Nat) (S : List Nat) (ops : List Oper) : Bool :=
 (!fl || acyc ops) && ops.all (fun o => o.guard.isNone && (match o.dst with | some d => Nat.blt d N && S.all (fun s => !Nat.beq s d) | none => true)) &&
 (List.range ops.length).all fun i => match dstOf ops i with | some d => (List.range ops.length).all fun j => Nat.beq j i || (match dstOf ops j with | some d' => !Nat.beq d' d | none => true) | none => true
theorem lk_noneS {L : Sl} {d : Nat} (h : (L.map (·.1)).all (fun s => !Nat.beq s d) = true) : lk L d = none := by
 induction L with
 | nil => rfl
 | cons p L ih =>
  simp only [List.map_cons, List.all_cons, Bool.and_eq_true, Bool.not_eq_true'] at h
  simp only [lk, h.1, cond_false]
  exact ih h.2
theorem regOk_out {fl : Bool} {N : Nat} {S : List Nat} {ops : List Oper} (h : regOk fl N S ops = true) : (fl = true → acyc ops = true) ∧ (∀ (i : Nat) (o : Oper), ops[i]? = some o → o.guard = none) ∧ (∀ (i : Nat) (d : Nat), dstOf ops i = some d → Nat.blt d N = true ∧ S.all (fun s => !Nat.beq s d) = true) ∧
  (∀ (i j : Nat) (d : Nat), dstOf ops i = some d → dstOf ops j = some d → i = j) := by
 simp only [regOk, Bool.and_eq_true] at h
 obtain ⟨⟨h1, h2⟩, h3⟩ := h
 have hd : ∀ i d, dstOf ops i = some d → ∃ o, ops[i]? = some o ∧ o.dst = some d := by
  intro i d e
  simp only [dstOf] at e
  cases ho : ops[i]? with
  | none => rw [ho] at e; cases e
  | some o => rw [ho] at e; exact ⟨o, rfl, e⟩
 refine ⟨fun e => by subst e; simpa using h1, fun i o ho => ?_, fun i d e => ?_, fun i j d e1 e2 => ?_⟩
 ·have := List.all_eq_true.1 h2 o (List.mem_of_getElem? ho)
  simp only [Bool.and_eq_true] at this
  simpa using this.1
 ·obtain ⟨o, ho, e'⟩ := hd i d e
  have := List.all_eq_true.1 h2 o (List.mem_of_getElem? ho)
  simp only [Bool.and_eq_true, e'] at this
  exact this.2
 ·obtain ⟨o, ho, _⟩ := hd i d e1
  obtain ⟨o', ho', _⟩ := hd j d e2
  have hi := (List.getElem?_eq_some_iff.1 ho).1
  have hj := (List.getElem?_eq_some_iff.1 ho').1
  have := List.all_eq_true.1 h3 i (List.mem_range.2 hi)
  rw [e1] at this
  have := List.all_eq_true.1 this j (List.mem_range.2 hj)
  rw [e2] at this
  simp only [Nat.beq_refl, Bool.not_true, Bool.or_false] at this
  exact (beq_out this).symm
section
variable {P : Program} {Q : Exit → Act → World → Prop} {N : Nat} {L : Sl} {w : World} {id : Nat} {ops : List Oper}
theorem wc_reg {fl : Bool} (ch : List Nat) (rv : Nat → Value) (C : List (Nat × Value) → World → Prop) (hok : regOk fl N (L.map (·.1)) ops = true) (hm : P.follows .mixedOrders = true) (hlt : (ch.all fun c => Nat.blt c ops.length) = true)
  (h0 : C [] w) (h0' : C [] w.drew)
  (hrd : ∀ (i : Nat) (o : Oper), ops[i]? = some o → i ∉ ch → ∀ dn w', C dn w' → (∀ c v, (c, v) ∈ dn → i ∉ prs fl ops c) → ∀ a, Kn N a L → (∀ j ∈ prs fl ops i, j ∉ ch → ∀ d, dstOf ops j = some d → gt a d = rv j) → (execOp a.eval o).run P w' = .ok (.value (rv i)) w')
  (hact : ∀ (i : Nat) (o : Oper), ops[i]? = some o → i ∈ ch → ∀ dn w', C dn w' → (∀ v, (i, v) ∉ dn) → (∀ j ∈ prs fl ops i, j ∈ ch → ∃ v, (j, v) ∈ dn) → ∀ a, Kn N a L → (∀ j ∈ prs fl ops i, j ∉ ch → ∀ d, dstOf ops j = some d → gt a d = rv j) →
   (∀ j v d, (j, v) ∈ dn → dstOf ops j = some d → gt a d = v) → Does P o a w' fun v w'' => C ((i, v) :: dn) w'')
  (hend : ∀ dn w', C dn w' → (∀ c ∈ ch, ∃ v, (c, v) ∈ dn) → ∀ a, Kn N a L → (∀ j, j ∉ ch → ∀ d, dstOf ops j = some d → gt a d = rv j) → (∀ j v d, (j, v) ∈ dn → dstOf ops j = some d → gt a d = v) → Q .normal a w') : WC (.region id ops.toArray fl) P Q N L w := by
 obtain ⟨k1, k2, k3, k4⟩ := regOk_out hok
 have hgr : ∀ (i : Nat) (o : Oper), ops[i]? = some o → ∀ y, Region.wanted o y = true := by
  intro i o ho y
  simp [Region.wanted, k2 i o ho]
 cases fl with
 | true =>
  have hlk : ∀ i d, dstOf ops i = some d → lk L d = none := fun i d e => lk_noneS (k3 i d e).2
  have hdne : ∀ i j d, dstOf ops i = some d → i ≠ j → (dstOf ops j != some d) = true := by
   intro i j d e hne
   simp only [bne_iff_ne, ne_eq]
   intro e2
   exact hne (k4 i j d e e2)
  let F : List (Nat × Value) := ((List.range ops.length).filter fun i => !ch.contains i).map fun i => (i, rv i)
  have hF : ∀ p, p ∈ F ↔ p.1 < ops.length ∧ p.1 ∉ ch ∧ p.2 = rv p.1 := by
   intro p
   simp only [F, List.mem_map, List.mem_filter, List.mem_range, Bool.not_eq_true', List.contains_eq_mem, decide_eq_false_iff_not]
   constructor
   ·rintro ⟨i, ⟨h1, h2⟩, rfl⟩; exact ⟨h1, h2, rfl⟩
   ·rintro ⟨h1, h2, h3⟩; exact ⟨p.1, ⟨h1, h2⟩, by rw [← h3]⟩
  have hfr : ∀ (S : Nat → Bool) (a : Act), Kn N a (flL ops S F ++ L) → ∀ j, S j = true → j ∉ ch → ∀ d, dstOf ops j = some d → gt a d = rv j := by
   intro S a k j hS hj d hd
   refine k.at_ d _ ?_
   rw [lk_append]
   have hl : ∀ (G : List (Nat × Value)), (∀ p ∈ G, p.2 = rv p.1) → ((j, rv j) ∈ G) → lk (flL ops S G) d = some (rv j) := by
    intro G
    induction G with
    | nil => intro _ h; cases h
    | cons p G ih =>
     intro hG hm
     simp only [flL]
     by_cases hpj : p.1 = j
     ·rw [hpj, hS]
      simp only [if_true, hd, lk, Nat.beq_refl, cond_true]
      rw [hG p (by simp), hpj]
     ·have hm' : (j, rv j) ∈ G := by
       rcases List.mem_cons.1 hm with h | h
       ·exact absurd (by rw [← h]) hpj
       ·exact h
      have ih' := ih (fun q hq => hG q (by simp [hq])) hm'
      split
      ·cases hdp : dstOf ops p.1 with
       | none => exact ih'
       | some d' =>
        simp only [lk]
        have : Nat.beq d' d = false := by
         cases hb : Nat.beq d' d with
         | false => rfl
         | true => have := beq_out hb; subst this; exact absurd (k4 _ _ _ hdp hd) hpj
        rw [this]; exact ih'
      ·exact ih'
   have hjl : j < ops.length := by
    simp only [dstOf] at hd
    cases ho : ops[j]? with
    | none => rw [ho] at hd; cases hd
    | some o => exact (List.getElem?_eq_some_iff.1 ho).1
   rw [hl F (fun p hp => ((hF p).1 hp).2.2) ((hF _).2 ⟨hjl, hj, rfl⟩)]
  have kL : ∀ (S : Nat → Bool) (a : Act), Kn N a (flL ops S F ++ L) → Kn N a L := by
   intro S a k
   refine ⟨k.size, k.defers, fun t v e => k.at_ t v ?_⟩
   rw [lk_append]
   have : lk (flL ops S F) t = none := by
    have hl : ∀ (G : List (Nat × Value)), lk (flL ops S G) t = none := by
     intro G
     induction G with
     | nil => rfl
     | cons p G ih =>
      simp only [flL]
      split
      ·cases hdp : dstOf ops p.1 with
       | none => exact ih
       | some d' =>
        simp only [lk]
        have : Nat.beq d' t = false := by
         cases hb : Nat.beq d' t with
         | false => rfl
         | true => have := beq_out hb; subst this; rw [hlk _ _ hdp] at e; cases e
        rw [this]; exact ih
      ·exact ih
    exact hl F
   rw [this]; exact e
  refine wc_poN F ch C hm (k1 rfl) ?_ ?_ ?_ ?_ ?_ ?_ hlt ?_ ?_ h0' ?_ ?_ ?_
  ·simp only [apart]
   refine List.all_eq_true.2 (fun p hp => ?_)
   obtain ⟨p1, p2, p3⟩ := (hF p).1 hp
   cases hd : dstOf ops p.1 with
   | none => rfl
   | some d =>
    simp only [Bool.and_eq_true]
    refine ⟨⟨by rw [hlk _ _ hd]; rfl, List.all_eq_true.2 (fun c hc => hdne _ _ _ hd (fun e => p2 (e ▸ hc)))⟩, List.all_eq_true.2 (fun q hq => ?_)⟩
    by_cases e : q.1 = p.1
    ·rw [e, Nat.beq_refl]; rfl
    ·rw [hdne _ _ _ hd (fun e' => e e'.symm), Bool.or_true]
  ·simp only [apartC]
   refine List.all_eq_true.2 (fun c hc => ?_)
   cases hd : dstOf ops c with
   | none => rfl
   | some d =>
    simp only [Bool.and_eq_true]
    refine ⟨by rw [hlk _ _ hd]; rfl, List.all_eq_true.2 (fun c' hc' => ?_)⟩
    by_cases e : c' = c
    ·rw [e, Nat.beq_refl]; rfl
    ·rw [hdne _ _ _ hd (fun e' => e e'.symm), Bool.or_true]
  ·simp only [covered]
   refine List.all_eq_true.2 (fun i hi => ?_)
   by_cases hc : i ∈ ch
   ·rw [Bool.or_eq_true]; exact .inr (by simpa using hc)
   ·rw [Bool.or_eq_true]
    exact .inl (List.any_eq_true.2 ⟨(i, rv i), (hF _).2 ⟨List.mem_range.1 hi, hc, rfl⟩, Nat.beq_refl i⟩)
  ·refine List.all_eq_true.2 (fun p hp => ?_)
   simpa using ((hF p).1 hp).2.1
  ·refine List.all_eq_true.2 (fun p hp => ?_)
   exact Nat.ble_eq_true_of_le ((hF p).1 hp).1
  ·have e : F.map (·.1) = (List.range ops.length).filter fun i => !ch.contains i := by
    simp only [F, List.map_map]
    exact List.map_id _
   rw [e]
   exact List.nodup_range.filter _
  ·refine List.all_eq_true.2 (fun o ho => ?_)
   obtain ⟨i, hi, rfl⟩ := List.mem_iff_getElem.1 ho
   cases hd : ops[i].dst with
   | none => rfl
   | some d => exact (k3 i d (by simp [dstOf, hi, hd])).1
  ·refine List.all_eq_true.2 (fun c hc => ?_)
   have hcl : c < ops.length := Nat.le_of_ble_eq_true (List.all_eq_true.1 hlt c hc)
   simp only [gOk, List.getElem?_eq_getElem hcl, k2 c _ (List.getElem?_eq_getElem hcl)]
  ·intro p hp dn w' hC hnd a k
   obtain ⟨p1, p2, p3⟩ := (hF p).1 hp
   have ho := List.getElem?_eq_getElem p1
   unfold Gives
   rw [ho]
   refine .inl ⟨hgr _ _ ho _, ?_⟩
   rw [p3]
   exact hrd p.1 _ ho p2 dn w' hC (fun c v hcv => by simpa [prs] using hnd c v hcv) a (kL _ a k) (fun j hj hjc d hd => hfr _ a k j (by simpa [prs] using hj) hjc d hd)
  ·intro c hc dn w' hC hnc hpc a k hdn
   have hcl : c < ops.length := Nat.le_of_ble_eq_true (List.all_eq_true.1 hlt c hc)
   have ho := List.getElem?_eq_getElem hcl
   exact ⟨_, ho, hact c _ ho hc dn w' hC hnc (fun j hj hjc => hpc j hj (by simpa using hjc)) a (kL _ a k) (fun j hj hjc d hd => hfr _ a k j (by simpa [prs] using hj) hjc d hd) hdn⟩
  ·intro dn w' hC hall a k hdn
   exact hend dn w' hC hall a (kL _ a k) (fun j hj d hd => hfr _ a k j rfl hj d hd) hdn
 | false =>
  intro a0 k0
  refine wp_region_lit ?_
  have main : ∀ (n : Nat) (rest : List Oper) (i : Nat), rest = ops.drop i → ops.length - i = n → i ≤ ops.length → ∀ a w' dn, C dn w' → Kn N a L → (∀ j v, (j, v) ∈ dn → j < i ∧ j ∈ ch) → (∀ j, j < i → j ∈ ch → ∃ v, (j, v) ∈ dn) →
    (∀ j, j < i → j ∉ ch → ∀ d, dstOf ops j = some d → gt a d = rv j) → (∀ j v d, (j, v) ∈ dn → dstOf ops j = some d → gt a d = v) → wpList P ops.toArray Q rest a w' := by
   intro n
   induction n with
   | zero =>
    intro rest i hr hn hi a w' dn hC k hdl hld hf hd
    have : i = ops.length := by omega
    subst this
    rw [List.drop_length] at hr
    subst hr
    refine wpList_nil (hend dn w' hC (fun c hc => hld c (Nat.le_of_ble_eq_true (List.all_eq_true.1 hlt c hc)) hc) a k (fun j hj d hjd => ?_) hd)
    refine hf j ?_ hj d hjd
    simp only [dstOf] at hjd
    cases ho : ops[j]? with
    | none => rw [ho] at hjd; cases hjd
    | some o => exact (List.getElem?_eq_some_iff.1 ho).1
   | succ n ih =>
    intro rest i hr hn hi a w' dn hC k hdl hld hf hd
    have hil : i < ops.length := by omega
    have ho := List.getElem?_eq_getElem hil
    have hr' : rest = ops[i] :: ops.drop (i + 1) := by rw [hr]; exact List.drop_eq_getElem_cons hil
    subst hr'
    have hg := k2 i _ ho
    have hdi : dstOf ops i = ops[i].dst := by simp [dstOf, ho]
    have keep : ∀ v, Kn N (a.put ops[i].dst v) L := by
     intro v
     cases hdd : ops[i].dst with
     | none => exact k
     | some d => exact k.putOther _ (lk_noneS (k3 i d (by rw [hdi, hdd])).2)
    have other : ∀ v j d, j ≠ i → dstOf ops j = some d → gt (a.put ops[i].dst v) d = gt a d := by
     intro v j d hne hjd
     cases hdd : ops[i].dst with
     | none => rfl
     | some d' =>
      refine gt_put_ne _ _ _ _ (fun e => ?_)
      subst e
      exact hne (k4 j i _ hjd (by rw [hdi, hdd]))
    have self : ∀ v d, dstOf ops i = some d → gt (a.put ops[i].dst v) d = v := by
     intro v d hd'
     rw [← hdi, hd']
     exact gt_put_same _ _ _ (by rw [k.size]; exact Nat.le_of_ble_eq_true (k3 i d hd').1)
    have pr : ∀ j, j ∈ prs false ops i ↔ j < i := fun j => by simp [prs]
    by_cases hic : i ∈ ch
    ·have hdo := hact i _ ho hic dn w' hC (fun v hv => by have := (hdl i v hv).1; omega) (fun j hj hjc => hld j ((pr j).1 hj) hjc) a k (fun j hj hjc d hjd => hf j ((pr j).1 hj) hjc d hjd) hd
     refine wpList_plain hg (fun K hK => hdo _ _ (fun v w'' hC'' => hK _ _ (ih _ (i + 1) rfl (by omega) (by omega) _ w'' ((i, v) :: dn) hC'' (keep v) ?_ ?_ ?_ ?_)))
     ·intro j u hj
      rcases List.mem_cons.1 hj with h | h
      ·cases h; exact ⟨by omega, hic⟩
      ·have := hdl j u h; exact ⟨by omega, this.2⟩
     ·intro j hj hjc
      by_cases e : j = i
      ·exact ⟨v, by rw [e]; simp⟩
      ·obtain ⟨u, hu⟩ := hld j (by omega) hjc
       exact ⟨u, by simp [hu]⟩
     ·intro j hj hjc d hjd
      have hne : j ≠ i := fun e => hjc (e ▸ hic)
      rw [other v j d hne hjd]
      exact hf j (by omega) hjc d hjd
     ·intro j u d hj hjd
      rcases List.mem_cons.1 hj with h | h
      ·cases h; exact self _ _ hjd
      ·have hji := (hdl j u h).1
       rw [other v j d (by omega) hjd]
       exact hd j u d h hjd
    ·have hr := hrd i _ ho hic dn w' hC (fun c v hcv hp => by have := (hdl c v hcv).1; have := (by simpa [prs] using hp : i < c); omega) a k (fun j hj hjc d hjd => hf j ((pr j).1 hj) hjc d hjd)
     refine st_of hg hr (ih _ (i + 1) rfl (by omega) (by omega) _ w' dn hC (keep _) (fun j u hj => ?_) (fun j hj hjc => ?_) (fun j hj hjc d hjd => ?_) (fun j u d hj hjd => ?_))
     ·have := hdl j u hj; exact ⟨by omega, this.2⟩
     ·exact hld j (by have : j ≠ i := fun e => hic (e ▸ hjc); omega) hjc
     ·by_cases e : j = i
      ·subst e; exact self _ _ hjd
      ·rw [other _ j d e hjd]; exact hf j (by omega) hjc d hjd
     ·rw [other _ j d (by have := (hdl j u hj).1; omega) hjd]
      exact hd j u d hj hjd
  exact main _ _ 0 rfl rfl (Nat.zero_le _) a0 w [] h0 k0 (by simp) (by intro j hj; omega) (by intro j hj; omega) (by simp)
end
end Go.Proofs.YtgpnpfiafcakfaaGreat

namespace Go.Proofs.YtgpnpfiafcakfaaGreat
open Go Go.RowKit
theorem tree_cellsG {ok : Nat → Prop} {w : World} {t : Tree} {cs : List Value} (h : Rep ok w (treeD t) cs) :
  ∃ sv lv uv, cs = [.int .i64 t.n, sv, .bool t.nul, lv, uv] ∧ Rep ok w (bytesD t.s) [sv] ∧ Rep ok w (.sq (t.l.map treeD)) [lv] ∧ Rep ok w (.sq (t.u.map tagD)) [uv] := by
 cases t with
 | mk n s nul l u =>
  simp only [treeD, Rep, Reps, bytesD] at h
  obtain ⟨c1, r1, rfl, rfl, c2, r2, rfl, h2, c3, r3, rfl, rfl, c4, r4, rfl, h4, c5, r5, rfl, h5, rfl⟩ := h
  obtain ⟨a2, b2, rfl, h2'⟩ := h2
  obtain ⟨a4, b4, rfl, h4'⟩ := h4
  obtain ⟨a5, b5, rfl, h5'⟩ := h5
  refine ⟨_, _, _, rfl, ?_, ?_, ?_⟩
  ·simp only [bytesD, Rep]; exact ⟨_, _, rfl, h2'⟩
  ·simp only [Rep, Tree.l, ← treeDs_map]; exact ⟨_, _, rfl, h4'⟩
  ·simp only [Rep]; exact ⟨_, _, rfl, h5'⟩
theorem sq_shape {ok : Nat → Prop} {w : World} {ds : List D} {v : Value} (h : Rep ok w (.sq ds) [v]) : ∃ a c, v = .slice a ds.length c ∧ ds.length ≤ c := by
 simp only [Rep] at h
 obtain ⟨a, c, e, hle, _⟩ := h
 exact ⟨a, c, by simpa using e, hle⟩
theorem rep_bytesAt {ok : Nat → Prop} {w : World} {s : List UInt8} {v : Value} (h : Rep ok w (bytesD s) [v]) : BytesAt w v s := by
 simp only [bytesD, Rep] at h
 obtain ⟨a, c, e, _, hs⟩ := h
 simp only [List.cons.injEq, and_true] at e
 subst e
 rcases hs with h0 | ⟨b, off, cs', rfl, ho, hc, hd⟩
 ·simp at h0; subst h0; exact .inl ⟨a, c, rfl, rfl⟩
 ·rw [(reps_bytes s cs').1 hd] at hc
  exact .inr ⟨b, off, c, by simp, hc⟩
structure Fb (B l0 vb : Nat) : Prop where
 le : B ≤ vb
 lt : vb < l0
theorem In.upS {B l0 vb : Nat} (hf : Fb B l0 vb) {S : Nat → Prop} {w w' : World} {d : D} {cs : List Value} (hr : Rep (In B l0 w) w d cs) (h : Chg S w w') (hs : ∀ j, S j → j = vb ∨ w.heap.size ≤ j) : Rep (In B l0 w') w' d cs :=
 Rep.mono (fun b hb => ⟨⟨hb.1, Nat.lt_of_lt_of_le hb.2 h.size⟩, h.block b hb.2 (fun e => by have h1 := hf.le; have h2 := hf.lt; have h3 := hb.2; have h4 := hb.1; rcases hs b e with h | h <;> omega)⟩) d cs hr
theorem In.ups {B l0 vb : Nat} (hf : Fb B l0 vb) {S : Nat → Prop} {w w' : World} {d : List D} {cs : List Value} (hr : Reps (In B l0 w) w d cs) (h : Chg S w w') (hs : ∀ j, S j → j = vb ∨ w.heap.size ≤ j) : Reps (In B l0 w') w' d cs :=
 Reps.mono (fun b hb => ⟨⟨hb.1, Nat.lt_of_lt_of_le hb.2 h.size⟩, h.block b hb.2 (fun e => by have h1 := hf.le; have h2 := hf.lt; have h3 := hb.2; have h4 := hb.1; rcases hs b e with h | h <;> omega)⟩) d cs hr
theorem Lo.upS {B : Nat} {S : Nat → Prop} {w w' : World} {d : D} {cs : List Value} (hr : Rep (Lo B) w d cs) (h : Chg S w w') (hB : B ≤ w.heap.size) (hs : ∀ j, S j → B ≤ j) : Rep (Lo B) w' d cs :=
 Rep.mono (fun b hb => ⟨hb, h.block b (by have h3 : b < B := hb; omega) (fun e => by have h3 : b < B := hb; have := hs b e; omega)⟩) d cs hr
def GiveU (u : List (Nat × List UInt8)) : Prop := Rising u ∧ u.length ≤ many
mutual
def GiveF (tg : Bool) : Fld → Tree → Prop
 | .mk kind _ _ nul _ _ of sub, x => IntKind.i64.wrap x.n = x.n ∧ x.l.length ≤ many ∧ (kind = 9 → nul < 0 → x.nul = false) ∧ (kind = 11 → nul < 0 → x.nul = true → x.l = []) ∧
  (kind = 11 → of = 10 → ∀ y ∈ x.l, GiveFs tg sub 0 y ∧ (tg = true → GiveU y.u)) ∧ (kind = 11 → of ≠ 10 → ∀ y ∈ x.l, IntKind.i64.wrap y.n = y.n) ∧ (kind = 10 → (nul < 0 ∨ x.nul = false) → GiveFs tg sub 0 x ∧ (tg = true → GiveU x.u))
def GiveFs (tg : Bool) : List Fld → Nat → Tree → Prop
 | [], _, _ => True
 | f :: fs, i, t => GiveF tg f (att t i) ∧ GiveFs tg fs (i + 1) t
end
def GiveP (tg : Bool) (fs : List Fld) (t : Tree) : Prop := GiveFs tg fs 0 t ∧ (tg = true → GiveU t.u)
inductive Dw where
 | val (kind nul : Int) (i : Nat)
 | sub (fs : List Fld) (i : Nat)
 | psub (fs : List Fld) (i : Nat)
def Dw.D (tg : Bool) (t : Tree) : Dw → List D
 | .val kind nul i => [valK kind nul (att t i)]
 | .sub fs i => partK tg fs (att t i)
 | .psub fs i => [if (att t i).nul then .lit (.pointer none) else .ptr (.agg (partK tg fs (att t i)))]
inductive Fw where
 | vp (o : Nat) | tb | tp (k : Nat) | wt | ut | lu | at_ (i : Nat) | fd (i k : Nat) | nn (i : Nat) | ln (i : Nat) | an (i : Nat) | dv (d : Dw) | mr (e sz : Nat) | cv (v : Value)
def dnF (B l0 vb tb lo : Nat) (tcs : List Value) (tg : Bool) (t : Tree) (w : World) : Fw → Value → Prop
 | .vp o, v => v = .pointer (some ⟨vb, o, none⟩)
 | .tb, v => v = .pointer (some ⟨tb, 0, none⟩)
 | .tp k, v => v = .pointer (some ⟨tb, k, none⟩)
 | .wt, v => v = .agg tcs.toArray
 | .ut, v => tcs[4]? = some v
 | .lu, v => v = .int .i64 t.u.length
 | .at_ i, v => ∃ cs, v = .agg cs.toArray ∧ Rep (Lo B) w (treeD (att t i)) cs
 | .fd i k, v => ∃ cs, Rep (Lo B) w (treeD (att t i)) cs ∧ cs[k]? = some v
 | .nn i, v => v = .bool (!(att t i).nul)
 | .ln i, v => v = .int .i64 (att t i).l.length
 | .an i, v => v = .int .i64 ((att t i).n % 2)
 | .dv d, v => ∃ cs, v.cells = cs.toArray ∧ Reps (In B l0 w) w (d.D tg t) cs ∧ (cs.all fun v => v.oneCell') = true
 | .mr e sz, v => ∃ g c, v = .slice (some ⟨g, 0, none⟩) 0 c ∧ w.ownsRow lo e sz v 0 [] ∧ g ≠ vb
 | .cv u, v => v = u
theorem dnF.up {B l0 vb tb lo : Nat} (hf : Fb B l0 vb) {tcs : List Value} {tg : Bool} {t : Tree} {S : Nat → Prop} {w w' : World} {x : Fw} {v : Value} (h : dnF B l0 vb tb lo tcs tg t w x v) (hc : Chg S w w') (hl0 : l0 ≤ w.heap.size) (hs : ∀ j, S j → j = vb ∨ w.heap.size ≤ j) : dnF B l0 vb tb lo tcs tg t w' x v := by
 have hBs : B ≤ w.heap.size := by have := hf.le; have := hf.lt; omega
 have hs' : ∀ j, S j → B ≤ j := fun j hj => by have := hf.le; rcases hs j hj with h | h <;> omega
 cases x with
 | vp o => exact h
 | tb => exact h
 | tp k => exact h
 | wt => exact h
 | ut => exact h
 | lu => exact h
 | at_ i => obtain ⟨cs, e, hr⟩ := h; exact ⟨cs, e, Lo.upS hr hc hBs hs'⟩
 | fd i k => obtain ⟨cs, hr, e⟩ := h; exact ⟨cs, Lo.upS hr hc hBs hs', e⟩
 | nn i => exact h
 | ln i => exact h
 | an i => exact h
 | dv d => obtain ⟨cs, e, hr, h1⟩ := h; exact ⟨cs, e, In.ups hf hr hc hs, h1⟩
 | mr e sz =>
  obtain ⟨g, c, rfl, hr, hne⟩ := h
  refine ⟨g, c, rfl, ?_, hne⟩
  obtain ⟨hx, ⟨he, _⟩ | ⟨g', cap, cur, he, hlo, hb, r⟩⟩ := hr
  ·cases he
  ·cases he
   have hlt : g < w.heap.size := (Array.getElem?_eq_some_iff.1 hb).1
   exact ⟨hx, .inr ⟨g, c, cur, rfl, hlo, (hc.block g hlt (fun e => by rcases hs g e with h | h; exact hne h; omega)).trans hb, r⟩⟩
 | cv u => exact h
abbrev FA := List (Nat × Fw)
def lkF : FA → Nat → Option Fw
 | [], _ => none
 | kv :: r, t => bif Nat.beq kv.1 t then some kv.2 else lkF r t
def evF (A : FA) : Operand → Option Fw
 | .tmp t => lkF A t
 | .const v => some (.cv v)
 | _ => none
structure Fk where
 at_ : Nat
 text : Nat
 octs : Nat
 six : Nat
 mks : List (Nat × List Fld)
 pts : List (Nat × List Fld)
def lkM : List (Nat × List Fld) → Nat → Option (List Fld)
 | [], _ => none
 | kv :: r, f => bif Nat.beq kv.1 f then some kv.2 else lkM r f
mutual
def fldEq : Fld → Fld → Bool
 | .mk a b c d e f g s, .mk a' b' c' d' e' f' g' s' => decide (a = a') && decide (b = b') && decide (c = c') && decide (d = d') && decide (e = e') && decide (f = f') && decide (g = g') && fldsEq s s'
def fldsEq : List Fld → List Fld → Bool
 | [], [] => true
 | x :: r, y :: s => fldEq x y && fldsEq r s
 | _, _ => false
end
mutual
theorem fldEq_out : ∀ (x y : Fld), fldEq x y = true → x = y
 | .mk a b c d e f g s, .mk a' b' c' d' e' f' g' s', h => by
  simp only [fldEq, Bool.and_eq_true, decide_eq_true_eq] at h
  obtain ⟨⟨⟨⟨⟨⟨⟨rfl, rfl⟩, rfl⟩, rfl⟩, rfl⟩, rfl⟩, rfl⟩, h⟩ := h
  rw [fldsEq_out s s' h]
theorem fldsEq_out : ∀ (x y : List Fld), fldsEq x y = true → x = y
 | [], [], _ => rfl
 | x :: r, y :: s, h => by
  simp only [fldsEq, Bool.and_eq_true] at h
  rw [fldEq_out x y h.1, fldsEq_out r s h.2]
 | [], y :: s, h => by simp [fldsEq] at h
 | x :: r, [], h => by simp [fldsEq] at h
end
def CvP (P : Program) (f : Nat) (ok : Tree → Prop) (g : Tree → List D) : Prop := isFn P f = true ∧ ∀ (B : Nat) (w : World) (x : Tree) (cs : List Value), ok x → Rep (Lo B) w (treeD x) cs → B ≤ w.heap.size →
 Calls P f #[.agg cs.toArray] w fun en w' => ∃ v vs, en = .returned v ∧ v.cells = vs.toArray ∧ Reps (In B w.heap.size w') w' (g x) vs ∧ (vs.all fun v => v.oneCell') = true ∧ Chg (fun _ => False) w w'
def AtP (P : Program) (f : Nat) : Prop := isFn P f = true ∧ ∀ (B : Nat) (w : World) (t : Tree) (cs : List Value) (i : Nat), Rep (Lo B) w (treeD t) cs → B ≤ w.heap.size →
 Calls P f #[.agg cs.toArray, .int .i64 i] w fun en w' => ∃ cs', en = .returned (.agg cs'.toArray) ∧ Rep (Lo B) w' (treeD (att t i)) cs' ∧ Chg (fun _ => False) w w'
def SxP (P : Program) (f : Nat) : Prop := isFn P f = true ∧ ∀ (B : Nat) (w : World) (s : List UInt8) (v : Value), Rep (Lo B) w (bytesD s) [v] → B ≤ w.heap.size →
 Calls P f #[v] w fun en w' => en = .returned (.agg (bv (sixteen s)).toArray) ∧ Chg (fun _ => False) w w'
structure FkOk (P : Program) (K : Fk) (tg : Bool) : Prop where
 at_ : AtP P K.at_
 text : isFn P K.text = true → CvP P K.text (fun _ => True) fun t => [valK 8 0 t]
 octs : isFn P K.octs = true → CvP P K.octs (fun _ => True) fun t => [valK 9 0 t]
 six : isFn P K.six = true → SxP P K.six
 mks : ∀ f fs, lkM K.mks f = some fs → CvP P f (GiveP tg fs) (partK tg fs)
 pts : ∀ f fs, lkM K.pts f = some fs → CvP P f (fun x => x.nul = false → GiveP tg fs x) fun x => [if x.nul then .lit (.pointer none) else .ptr (.agg (partK tg fs x))]
def mrTy (P : Program) (t : Nat) : Option (Nat × Nat) := match P.underlying t with
 | some (.slice e) => (match P.info? e with | some i => bif rowTy P t e i.size && Nat.blt 0 i.size && Nat.ble i.size 1000 then some (e, i.size) else none | none => none)
 | _ => none
def isBytes (P : Program) (t : Nat) : Bool := match P.underlying t with | some (.slice e) => (match P.underlying e with | some (.int .u8) => true | _ => false) | _ => false
def isStr (P : Program) (t : Nat) : Bool := match P.underlying t with | some .string => true | _ => false
def kindOf : IntKind → Option Int
 | .i8 => some 1 | .i16 => some 2 | .i32 => some 3 | .u16 => some 5 | _ => none
def opF (P : Program) (K : Fk) (i0 : Nat) (f0 : Fld) (A : FA) : Op → Option Fw
 | .move x => evF A x
 | .assign x => evF A x
 | .nilCheck x => match evF A x with | some (.vp o) => some (.vp o) | _ => none
 | .fieldAddr s x f => match evF A x with
  | some (.vp o) => (fieldOff P s f).map fun off => .vp (o + off)
  | some .tb => (fieldOff P s f).map fun off => .tp off
  | _ => none
 | .load t x => match evF A x with
  | some .tb => (match tyAgg P t with | some n => bif Nat.beq n 5 then some .wt else none | none => none)
  | some (.tp 4) => bif tyOne P t then some .ut else none
  | _ => none
 | .field t x f => match evF A x with
  | some (.at_ i) => (match partOff P t f with | some off => bif Nat.blt off 5 then some (.fd i off) else none | none => none)
  | _ => none
 | .call ⟨.value (.func f), ⟨[x, .const (.int .i64 (.ofNat i))]⟩, _⟩ => match evF A x with
  | some .wt => bif Nat.beq f K.at_ then some (.at_ i) else none
  | _ => none
 | .call ⟨.value (.func f), ⟨[x]⟩, _⟩ => match evF A x with
  | some (.at_ i) => bif Nat.beq f K.text && isFn P f then some (.dv (.val 8 0 i)) else bif Nat.beq f K.octs && isFn P f then some (.dv (.val 9 0 i)) else
    (match lkM K.mks f with
    | some fs => bif Nat.beq i i0 && fldsEq fs f0.sub && decide (f0.kind = 10) && decide (f0.nul < 0) then some (.dv (.sub fs i)) else none
    | none => (match lkM K.pts f with
     | some fs => bif Nat.beq i i0 && fldsEq fs f0.sub && decide (f0.kind = 10) && decide (0 ≤ f0.nul) then some (.dv (.psub fs i)) else none
     | none => none))
  | some (.fd i 1) => bif Nat.beq f K.six && isFn P f then some (.dv (.val 7 (-1) i)) else none
  | _ => none
 | .convert s t x => match evF A x with
  | some (.fd i 0) => (match intOfTy P s, intOfTy P t with
   | some .i64, some k => (kindOf k).map fun c => .dv (.val c (-1) i)
   | _, _ => none)
  | some (.fd i 1) => bif isBytes P s && isStr P t then some (.dv (.val 8 (-1) i)) else none
  | _ => none
 | .binOp .and _ x (.const (.int .i64 1)) _ => match evF A x with | some (.fd i 0) => some (.an i) | _ => none
 | .binOp .eql _ x (.const (.int .i64 1)) _ => match evF A x with | some (.an i) => some (.dv (.val 0 (-1) i)) | _ => none
 | .unOp .not _ x => match evF A x with | some (.fd i 2) => some (.nn i) | _ => none
 | .call ⟨.builtin .len, ⟨[x]⟩, ⟨[t]⟩⟩ => match evF A x with
  | some (.fd i 3) => bif (elemSize P t).isSome then some (.ln i) else none
  | some .ut => bif (elemSize P t).isSome then some .lu else none
  | _ => none
 | .makeSlice t (.const (.int _ 0)) x => match evF A x with | some (.ln i) => bif Nat.beq i i0 then (mrTy P t).map fun p => .mr p.1 p.2 else none | _ => none
 | _ => none
def opsF (P : Program) (K : Fk) (i0 : Nat) (f0 : Fld) (N : Nat) (S : List Nat) : FA → List Oper → Option FA
 | A, [] => some A
 | A, ⟨some d, op, _, _, _, none⟩ :: r => bif Nat.blt d N && S.all (fun s => !Nat.beq s d) then (match opF P K i0 f0 A op with
  | some x => opsF P K i0 f0 N S ((d, x) :: A) r
  | none => none) else none
 | _, _ => none
end Go.Proofs.YtgpnpfiafcakfaaGreat

namespace Go.Proofs.YtgpnpfiafcakfaaGreat
open Go Go.RowKit
section
variable {P : Program} {a : Act} {w : World} {o : Oper}
theorem ro_move {x : Operand} (h : o.op = .move x) : (execOp a.eval o).run P w = .ok (.value (a.eval x)) w := by cases o; simp only at h; subst h; simp [execOp]
theorem ro_assign {x : Operand} (h : o.op = .assign x) : (execOp a.eval o).run P w = .ok (.value (a.eval x)) w := by cases o; simp only at h; subst h; simp [execOp]
theorem ro_nilCheck {x : Operand} {p : Addr} (h : o.op = .nilCheck x) (hx : a.eval x = .pointer (some p)) : (execOp a.eval o).run P w = .ok (.value (.pointer (some p))) w := by cases o; simp only at h; subst h; simp [execOp, hx]
theorem ro_fieldAddr {x : Operand} {b o' s f off : Nat} (h : o.op = .fieldAddr s x f) (hx : a.eval x = .pointer (some ⟨b, o', none⟩)) (hf : fieldOff P s f = some off) : (execOp a.eval o).run P w = .ok (.value (.pointer (some ⟨b, o' + off, none⟩))) w := by
 cases o; simp only at h; subst h
 unfold fieldOff at hf
 split at hf
 ·rename_i fs hs
  split at hf
  ·rename_i fd hfd
   split at hf
   ·rename_i i hi
    split at hf
    ·cases hf
    ·rename_i hne
     cases hf
     simp [execOp, hx, Instr.fieldAt, run_underlying hs, hfd, Instr.sureAddr, fieldPlace, sizeOf, typeInfo, hi, hne, add_plain]
   ·cases hf
  ·cases hf
 ·cases hf
theorem ro_load {x : Operand} {p : Addr} {t : TypeId} {v : Value} (h : o.op = .load t x) (hx : a.eval x = .pointer (some p)) (ht : tyOne P t = true) (hc : w.cell? p = some v) : (execOp a.eval o).run P w = .ok (.value v) w := by
 cases o; simp only at h; subst h; simp [execOp, hx, Instr.loadAt, Instr.sureAddr, loadVar, run_isAgg_one ht, hc]
theorem ro_loadAgg {x : Operand} {b off : Nat} {t : TypeId} {cs : List Value} (h : o.op = .load t x) (hx : a.eval x = .pointer (some ⟨b, off, none⟩)) (ht : tyAgg P t = some cs.length) (hc : ∀ j v, cs[j]? = some v → w.cell? ⟨b, off + j, none⟩ = some v) : (execOp a.eval o).run P w = .ok (.value (.agg cs.toArray)) w := by
 cases o; simp only at h; subst h
 have hl := run_loadCells_list (P := P) w ⟨b, off, none⟩ cs (fun j v e => by rw [add_plain _ _ rfl]; exact hc j v e)
 unfold tyAgg at ht
 split at ht
 ·rename_i u hu
  cases hi : P.info? t with
  | none => simp [hi] at ht
  | some i => simp [hi] at ht; simp [execOp, hx, Instr.loadAt, Instr.sureAddr, loadVar, isAgg, run_underlying hu, sizeOf, typeInfo, hi, ht, hl]
 ·rename_i u hu
  cases hi : P.info? t with
  | none => simp [hi] at ht
  | some i => simp [hi] at ht; simp [execOp, hx, Instr.loadAt, Instr.sureAddr, loadVar, isAgg, run_underlying hu, sizeOf, typeInfo, hi, ht, hl]
 ·cases ht
theorem ro_field {x : Operand} {s f off : Nat} {cs : List Value} {v : Value} (h : o.op = .field s x f) (hx : a.eval x = .agg cs.toArray) (ho : partOff P s f = some off) (hv : cs[off]? = some v) : (execOp a.eval o).run P w = .ok (.value v) w := by
 cases o; simp only at h; subst h
 unfold partOff at ho
 split at ho
 ·rename_i fs hs
  split at ho
  ·rename_i fd hfd
   split at ho
   ·rename_i h1
    cases ho
    simp [execOp, Instr.field, run_underlying hs, hfd, hx, asAgg, part, run_isAgg_one h1, hv]
   ·cases ho
  ·cases ho
 ·cases ho
theorem ro_convInt {x : Operand} {s t : TypeId} {k k' : IntKind} {n : Int} (h : o.op = .convert s t x) (hx : a.eval x = .int k n) (hs : P.underlying s = some (.int k)) (ht : P.underlying t = some (.int k')) : (execOp a.eval o).run P w = .ok (.value (.int k' (k'.wrap n))) w := by
 cases o; simp only at h; subst h; simp [execOp, hx, convert, run_underlying hs, run_underlying ht, Conv.intToInt]
theorem push_all (l : List UInt8) : ∀ (acc : ByteArray), (l.map fun c => (c.toNat : Int)).foldl (fun b n => b.push (UInt8.ofNat n.toNat)) acc = ⟨acc.data ++ l.toArray⟩ := by
 induction l with
 | nil => intro acc; cases acc; simp
 | cons c l ih =>
  intro acc
  simp only [List.map_cons, List.foldl_cons]
  rw [ih]
  cases acc
  simp [ByteArray.push]
theorem ro_toStr {x : Operand} {s t : TypeId} {v : Value} {bs : List UInt8} (h : o.op = .convert s t x) (hx : a.eval x = v) (hv : BytesAt w v bs) (hs : isBytes P s = true) (ht : isStr P t = true) : (execOp a.eval o).run P w = .ok (.value (strV bs)) w := by
 cases o; simp only at h; subst h
 unfold isBytes at hs
 split at hs
 ·rename_i e he
  split at hs
  ·rename_i he8
   unfold isStr at ht
   split at ht
   ·rename_i hst
    have key : (Conv.bytesToString v).run P w = .ok (strV bs) w := by
     rcases hv with ⟨a0, c, rfl, rfl⟩ | ⟨b, off, c, rfl, hc⟩
     ·cases a0 with
      | none => simp [Conv.bytesToString, strV]; rfl
      | some p =>
       have hl := run_loadCells_list (P := P) w p [] (by simp)
       have := run_bytesToString (P := P) w p 0 c [] (by simpa using hl)
       rw [this]; rfl
     ·have hl := run_loadCells_list (P := P) w ⟨b, off, none⟩ (bv bs) (fun j v e => by rw [add_plain _ _ rfl]; exact hc.cell e)
      rw [bv_length] at hl
      have hb : bv bs = (bs.map fun c => (c.toNat : Int)).map (Value.int .u8) := by simp [bv]
      rw [hb] at hl
      rw [run_bytesToString w ⟨b, off, none⟩ bs.length c _ hl]
      have := push_all bs ByteArray.empty
      rw [strV]
      congr 2
      rw [this]
      simp [ByteArray.empty, ByteArray.emptyWithCapacity]
      try rfl
    obtain ⟨a', l', c', rfl⟩ : ∃ a' l' c', v = .slice a' l' c' := by
     rcases hv with ⟨a0, c, rfl, _⟩ | ⟨b, off, c, rfl, _⟩ <;> exact ⟨_, _, _, rfl⟩
    simp only [execOp, hx, Sem.run_bind, run_convert_bytes_string w s t e a' l' c' he he8 hst, key, Result.andThen_ok, Sem.run_pure]
   ·cases ht
  ·cases hs
 ·cases hs
theorem ro_len {x : Operand} {t : TypeId} {b : Option Addr} {n c : Nat} (h : o.op = .call ⟨.builtin .len, #[x], #[t]⟩) (hx : a.eval x = .slice b n c) (ht : (elemSize P t).isSome = true) : (execOp a.eval o).run P w = .ok (.value (.int .i64 n)) w := by
 cases o; simp only at h; subst h
 unfold elemSize at ht
 split at ht
 ·rename_i e he
  simp [execOp, resolve, invoke, builtin, Builtin.len_, run_underlying he, hx, goInt]
 ·cases ht
theorem ro_not {x : Operand} {t : TypeId} {b : Bool} (h : o.op = .unOp .not t x) (hx : a.eval x = .bool b) : (execOp a.eval o).run P w = .ok (.value (.bool (!b))) w := by
 cases o; simp only at h; subst h; simp only [execOp, hx]; simp [go_sem]
theorem ro_and {x y : Operand} {t u : TypeId} {kk : IntKind} {m n r : Int} (h : o.op = .binOp .and t x y u) (hx : a.eval x = .int kk m) (hy : a.eval y = .int kk n) (hr : bits .and kk m n = r) : (execOp a.eval o).run P w = .ok (.value (.int kk r)) w := by
 cases o; simp only at h; subst h
 have h2 : ∀ w : World, (Op.intBits .and kk m n).run P w = .ok (.int kk r) w := fun w => by rw [intBits_and, hr]; rfl
 simp only [execOp, hx, hy]
 simp [eqGuard, binOp, h2]
theorem ro_eql {x y : Operand} {t u : TypeId} {kk : IntKind} {m n : Int} (h : o.op = .binOp .eql t x y u) (hx : a.eval x = .int kk m) (hy : a.eval y = .int kk n) : (execOp a.eval o).run P w = .ok (.value (.bool (m == n))) w := by
 cases o; simp only at h; subst h; simp only [execOp, hx, hy]; simp [go_sem, eqGuard]
theorem do_call {f : FuncId} {args : Array Operand} {ats : Array TypeId} {vs : Array Value} {R : Value → World → Prop} (h : o.op = .call ⟨.value (.func f), args, ats⟩) (ha : args.map a.eval = vs) (hf : isFn P f = true) (hc : Calls P f vs w fun e w' => ∃ v, e = .returned v ∧ R v w') : Does P o a w R := by
 cases o; simp only at h; subst h
 have hargs : args = args.toList.toArray := by simp
 intro K Q hK
 unfold Oper.wp
 have hr : ∀ (d : Option Tmp) (ty : TypeId) (pos : String) (aft : Array Edge) (g : Option (Nat × Bool)), (execOp a.eval ⟨d, .call ⟨.value (.func f), args, ats⟩, ty, pos, aft, g⟩).run P w = .ok (.enter f vs) w := by
  intro d ty pos aft g
  unfold isFn at hf
  cases hfn : P.funcs[f]? with
  | none => simp [hfn] at hf
  | some fn =>
   simp [hfn] at hf
   have h2 : fn.body ≠ none := by intro e; simp [e] at hf
   simp [execOp, resolve, Deferred.ofValue, Act.eval, invoke, callFunc, hfn, hf.1, h2]
   exact ha
 rw [hr]
 refine hc.mono (fun e w' he => ?_)
 obtain ⟨v, rfl, hv⟩ := he
 exact hK _ _ hv
theorem do_makeRow {t e sz B n : Nat} {kl kc : IntKind} {x : Operand} {R : Value → World → Prop} (h : o.op = .makeSlice t (.const (.int kl 0)) x) (hT : rowTy P t e sz = true) (hx : a.eval x = .int kc (n : Int)) (hn : n ≤ many) (hB : B ≤ w.heap.size)
  (hR : ∀ w', w'.ownsRow B e sz (.slice (some ⟨w.heap.size, 0, none⟩) 0 n) 0 [] → w.grownBy w' none → w'.heap.size = w.heap.size + 1 → R (.slice (some ⟨w.heap.size, 0, none⟩) 0 n) w') : Does P o a w R := by
 cases o; simp only at h; subst h
 obtain ⟨hu, i, z, hi, hs1, hb1, hz, hzc⟩ := rowTy_out hT
 have hm : i.bytes * n ≤ 281474976710656 := by have := Nat.mul_le_mul hb1 hn; simp only [many] at this; omega
 have h63 : n ≤ maxLen := by simp only [many, maxLen] at *; omega
 have h63' : (n : Int) ≤ 9223372036854775807 := by simp only [maxLen] at h63; omega
 have hb' : (i.bytes : Int) * (n : Int) ≤ 281474976710656 := by
  have h : ((i.bytes * n : Nat) : Int) ≤ 281474976710656 := by omega
  rwa [Int.natCast_mul] at h
 have hr := run_make (P := P) w t e i z hu hi hz kl kc 0 n (Int.le_refl _) (by omega) hb' h63'
 simp only [Int.toNat_zero, Int.toNat_natCast] at hr
 refine does_of (w' := w.alloc (.cells (madeCells z.cells (n * i.size)) e)) ?_ (hR _ (by rw [← hs1]; exact World.ownsRow_made w _ n hB h63 (size_madeCells _ _)) (World.grownBy_alloc w _ none) (by simp))
 simp only [execOp, eval_const, hx, Sem.run_bind, hr, Result.andThen_ok, Sem.run_pure]
end
theorem FkOk.add {P : Program} {K : Fk} {tg : Bool} (h : FkOk P K tg) {f : Nat} {fs : List Fld} (hc : CvP P f (GiveP tg fs) (partK tg fs)) : FkOk P { K with mks := (f, fs) :: K.mks } tg := by
 refine ⟨h.at_, h.text, h.octs, h.six, fun g gs hg => ?_, h.pts⟩
 simp only [lkM] at hg
 cases hb : Nat.beq f g with
 | true => rw [hb] at hg; simp only [cond_true, Option.some.injEq] at hg; rw [← beq_out hb, ← hg]; exact hc
 | false => rw [hb] at hg; exact h.mks g gs hg
structure KnF (N B l0 vb tb lo : Nat) (tcs : List Value) (tg : Bool) (t : Tree) (w : World) (a : Act) (A : FA) : Prop where
 size : a.tmps.size = N
 defers : a.defers = []
 at_ : ∀ s x, lkF A s = some x → dnF B l0 vb tb lo tcs tg t w x (gt a s)
structure FWd (B vb tb : Nat) (tT : TypeId) (tcs : List Value) (t : Tree) (w : World) : Prop where
 box : Box w tb tcs tT
 rep : Rep (Lo B) w (treeD t) tcs
 ne : tb ≠ vb
theorem FWd.up {B l0 vb tb : Nat} (hf : Fb B l0 vb) {tT : TypeId} {tcs : List Value} {t : Tree} {S : Nat → Prop} {w w' : World} (h : FWd B vb tb tT tcs t w) (hc : Chg S w w') (hl0 : l0 ≤ w.heap.size) (hs : ∀ j, S j → j = vb ∨ w.heap.size ≤ j) : FWd B vb tb tT tcs t w' :=
 ⟨h.box.chg hc (fun e => by rcases hs _ e with h1 | h1; exact h.ne h1; have := h.box.lt; omega), Lo.upS h.rep hc (by have := hf.le; have := hf.lt; omega) (fun j hj => by have := hf.le; have := hf.lt; rcases hs j hj with h | h <;> omega), h.ne⟩
section
variable {P : Program} {K : Fk} {N B l0 vb tb lo : Nat} {tcs : List Value} {tg : Bool} {t : Tree} {w : World} {a : Act} {A : FA}
theorem KnF.up (hf : Fb B l0 vb) {S : Nat → Prop} {w' : World} (h : KnF N B l0 vb tb lo tcs tg t w a A) (hc : Chg S w w') (hl0 : l0 ≤ w.heap.size) (hs : ∀ j, S j → j = vb ∨ w.heap.size ≤ j) : KnF N B l0 vb tb lo tcs tg t w' a A := ⟨h.size, h.defers, fun s x e => (h.at_ s x e).up hf hc hl0 hs⟩
theorem KnF.put (h : KnF N B l0 vb tb lo tcs tg t w a A) {d : Nat} {x : Fw} {v : Value} (hd : Nat.blt d N = true) (hv : dnF B l0 vb tb lo tcs tg t w x v) : KnF N B l0 vb tb lo tcs tg t w (a.put (some d) v) ((d, x) :: A) := by
 refine ⟨(put_size a _ v).trans h.size, (put_defers a _ v).trans h.defers, fun s y e => ?_⟩
 simp only [lkF] at e
 cases hb : Nat.beq d s with
 | true =>
  rw [hb] at e
  simp only [cond_true, Option.some.injEq] at e
  have := beq_out hb; subst this; subst e
  rw [gt_put_same _ _ _ (by rw [h.size]; exact Nat.le_of_ble_eq_true hd)]; exact hv
 | false =>
  rw [hb] at e
  rw [gt_put_ne _ _ _ _ (by rintro rfl; rw [Nat.beq_refl] at hb; cases hb)]
  exact h.at_ s y e
theorem KnF.eval (h : KnF N B l0 vb tb lo tcs tg t w a A) {x : Operand} {f : Fw} (e : evF A x = some f) : dnF B l0 vb tb lo tcs tg t w f (a.eval x) := by
 unfold evF at e
 split at e
 ·exact h.at_ _ _ e
 ·cases e; rfl
 ·cases e
theorem mrTy_out {t : Nat} {p : Nat × Nat} (h : mrTy P t = some p) : rowTy P t p.1 p.2 = true ∧ 0 < p.2 ∧ p.2 ≤ 1000 := by
 unfold mrTy at h
 split at h
 ·split at h
  ·rename_i i hi
   cases hb : rowTy P t _ i.size && Nat.blt 0 i.size && Nat.ble i.size 1000 with
   | false => rw [hb] at h; cases h
   | true =>
    rw [hb] at h
    simp only [cond_true, Option.some.injEq] at h
    subst h
    simp only [Bool.and_eq_true] at hb
    exact ⟨hb.1.1, Nat.le_of_ble_eq_true hb.1.2, Nat.le_of_ble_eq_true hb.2⟩
  ·cases h
 ·cases h
theorem kindOf_val {k : IntKind} {c : Int} (h : kindOf k = some c) (t : Tree) : valK c (-1) t = .lit (.int k (k.wrap t.n)) := by
 cases k <;> simp [kindOf] at h <;> subst h <;> simp [valK]
theorem no_false {w w' : World} (_ : Chg (fun _ => False) w w') : ∀ j, (fun _ => False) j → j = vb ∨ w.heap.size ≤ j := fun _ h => h.elim
theorem in_new {w' : World} (hl0 : l0 ≤ w.heap.size) : ∀ r, In B w.heap.size w' r → In B l0 w' r := by
 rintro r ⟨h1, h2⟩
 exact ⟨by omega, h2⟩
theorem giveF_sub {f : Fld} {x : Tree} (h : GiveF tg f x) (hk : f.kind = 10) (hn : f.nul < 0 ∨ x.nul = false) : GiveP tg f.sub x := by
 cases f with
 | mk kind fr upto nul tag df of sub => simp only [GiveF] at h; exact h.2.2.2.2.2.2 hk hn
theorem opF_ok (hK : FkOk P K tg) (hf : Fb B l0 vb) {tT : TypeId} {i0 : Nat} {f0 : Fld} (hg : GiveF tg f0 (att t i0)) (hF : FWd B vb tb tT tcs t w) (k : KnF N B l0 vb tb lo tcs tg t w a A) {o : Oper} {x : Fw} (h : opF P K i0 f0 A o.op = some x) (hlo : lo ≤ w.heap.size) (hl0 : l0 ≤ w.heap.size) :
  Does P o a w fun v w' => Chg (fun _ => False) w w' ∧ dnF B l0 vb tb lo tcs tg t w' x v := by
 have pure : ∀ {v : Value}, (execOp a.eval o).run P w = .ok (.value v) w → dnF B l0 vb tb lo tcs tg t w x v → Does P o a w fun v w' => Chg (fun _ => False) w w' ∧ dnF B l0 vb tb lo tcs tg t w' x v :=
  fun hr hv => does_of hr ⟨Chg.refl _ _, hv⟩
 have hBw : B ≤ w.heap.size := by have := hf.le; have := hf.lt; omega
 obtain ⟨sv, lv, uv, rfl, hsv, hlv, huv⟩ := tree_cellsG hF.rep
 generalize hop : o.op = op at h
 unfold opF at h
 split at h
 ·exact pure (ro_move hop) (k.eval h)
 ·exact pure (ro_assign hop) (k.eval h)
 ·split at h
  ·rename_i e; cases h; exact pure (ro_nilCheck hop (k.eval e)) rfl
  ·cases h
 ·split at h
  ·rename_i e
   simp only [Option.map_eq_some_iff] at h
   obtain ⟨off, ho, rfl⟩ := h
   exact pure (ro_fieldAddr hop (k.eval e) ho) rfl
  ·rename_i e
   simp only [Option.map_eq_some_iff] at h
   obtain ⟨off, ho, rfl⟩ := h
   refine pure (ro_fieldAddr hop (k.eval e) ho) ?_
   simp [dnF]
  ·cases h
 ·split at h
  ·rename_i e
   split at h
   ·rename_i n hn
    have := bif_some h; subst this
    cases hb : Nat.beq n 5 with
    | false => rw [hb] at h; cases h
    | true =>
     have := beq_out hb; subst this
     exact pure (ro_loadAgg (cs := [.int .i64 t.n, sv, .bool t.nul, lv, uv]) hop (k.eval e) hn (fun j v e => by rw [Nat.zero_add]; exact hF.box.cell e)) rfl
   ·cases h
  ·rename_i e
   cases hb : tyOne P _ with
   | false => rw [hb] at h; cases h
   | true =>
    rw [hb] at h
    cases h
    exact pure (ro_load hop (k.eval e) hb (hF.box.cell (i := 4) rfl)) rfl
  ·cases h
 ·split at h
  ·rename_i i e
   split at h
   ·rename_i off ho
    cases hb : Nat.blt off 5 with
    | false => rw [hb] at h; cases h
    | true =>
     rw [hb] at h
     cases h
     obtain ⟨cs, e2, hr⟩ := k.eval e
     obtain ⟨s1, l1, u1, rfl, _⟩ := tree_cellsG hr
     have hoff : off < 5 := Nat.le_of_ble_eq_true hb
     obtain ⟨v, hv⟩ : ∃ v, ([Value.int .i64 (att t i).n, s1, .bool (att t i).nul, l1, u1] : List Value)[off]? = some v := ⟨_, List.getElem?_eq_getElem (by simpa using hoff)⟩
     exact pure (ro_field hop e2 ho hv) ⟨_, hr, hv⟩
   ·cases h
  ·cases h
 ·-- the call of 'at'
  split at h
  ·rename_i e
   cases hb : Nat.beq _ K.at_ with
   | false => rw [hb] at h; cases h
   | true =>
    rw [hb] at h
    cases h
    have := beq_out hb; subst this
    refine do_call hop (vs := #[.agg _, .int .i64 _]) (by simp only [List.map_toArray, List.map_cons, List.map_nil, eval_const]; rw [show a.eval _ = _ from k.eval e]; rfl) hK.at_.1 ((hK.at_.2 B w t _ _ hF.rep hBw).mono ?_)
    rintro en w' ⟨cs', rfl, hr, hc⟩
    exact ⟨_, rfl, hc, cs', rfl, hr⟩
  ·cases h
 ·-- another call
  rename_i f1 x1 ats
  split at h
  ·rename_i i e
   obtain ⟨cs, e2, hr⟩ := k.eval e
   have fin : ∀ {f : Nat} {ok : Tree → Prop} {g : Tree → List D} {d : Dw}, f1 = f → CvP P f ok g → ok (att t i) → (d.D tg t = g (att t i)) → x = .dv d → Does P o a w fun v w' => Chg (fun _ => False) w w' ∧ dnF B l0 vb tb lo [.int .i64 t.n, sv, .bool t.nul, lv, uv] tg t w' x v := by
    intro f ok g d hf1 hcv hok hd hx
    subst hx
    subst hf1
    refine do_call hop (vs := #[.agg cs.toArray]) (by simp only [List.map_toArray, List.map_cons, List.map_nil]; rw [e2]) hcv.1 ((hcv.2 B w _ cs hok hr hBw).mono ?_)
    rintro en w' ⟨v, vs, rfl, hv, hrep, h1, hc⟩
    exact ⟨v, rfl, hc, vs, hv, by rw [hd]; exact Reps.mono (fun b hb => ⟨in_new hl0 b hb, rfl⟩) _ _ hrep, h1⟩
   cases h1 : Nat.beq f1 K.text && isFn P f1 with
   | true =>
    rw [h1] at h; simp only [cond_true, Option.some.injEq] at h
    rw [Bool.and_eq_true] at h1
    exact fin (beq_out h1.1) (hK.text (beq_out h1.1 ▸ h1.2)) trivial rfl h.symm
   | false =>
    rw [h1] at h; simp only [cond_false] at h
    cases h2 : Nat.beq f1 K.octs && isFn P f1 with
    | true =>
     rw [h2] at h; simp only [cond_true, Option.some.injEq] at h
     rw [Bool.and_eq_true] at h2
     exact fin (beq_out h2.1) (hK.octs (beq_out h2.1 ▸ h2.2)) trivial rfl h.symm
    | false =>
     rw [h2] at h; simp only [cond_false] at h
     split at h
     ·rename_i fs hfs
      cases hb : Nat.beq i i0 && fldsEq fs f0.sub && decide (f0.kind = 10) && decide (f0.nul < 0) with
      | false => rw [hb] at h; cases h
      | true =>
       rw [hb] at h; simp only [cond_true, Option.some.injEq] at h
       simp only [Bool.and_eq_true, decide_eq_true_eq] at hb
       obtain ⟨⟨⟨b1, b2⟩, b3⟩, b4⟩ := hb
       have := beq_out b1; subst this
       have := fldsEq_out _ _ b2; subst this
       exact fin rfl (hK.mks _ _ hfs) (giveF_sub hg b3 (.inl b4)) rfl h.symm
     ·split at h
      ·rename_i fs hfs
       cases hb : Nat.beq i i0 && fldsEq fs f0.sub && decide (f0.kind = 10) && decide (0 ≤ f0.nul) with
       | false => rw [hb] at h; cases h
       | true =>
        rw [hb] at h; simp only [cond_true, Option.some.injEq] at h
        simp only [Bool.and_eq_true, decide_eq_true_eq] at hb
        obtain ⟨⟨⟨b1, b2⟩, b3⟩, b4⟩ := hb
        have := beq_out b1; subst this
        have := fldsEq_out _ _ b2; subst this
        exact fin rfl (hK.pts _ _ hfs) (fun hn => giveF_sub hg b3 (.inr hn)) rfl h.symm
      ·cases h
  ·rename_i i e
   cases hb : Nat.beq f1 K.six && isFn P f1 with
   | false => rw [hb] at h; cases h
   | true =>
    rw [hb] at h; simp only [cond_true, Option.some.injEq] at h
    subst h
    rw [Bool.and_eq_true] at hb
    have hsix := hK.six (beq_out hb.1 ▸ hb.2)
    have := beq_out hb.1; subst this
    obtain ⟨cs, hr, e2⟩ := k.eval e
    obtain ⟨s1, l1, u1, rfl, hs1, _⟩ := tree_cellsG hr
    simp only [List.getElem?_cons_succ, List.getElem?_cons_zero, Option.some.injEq] at e2
    refine do_call hop (vs := #[s1]) (by simp only [List.map_toArray, List.map_cons, List.map_nil]; rw [← e2]) hsix.1 ((hsix.2 B w _ s1 hs1 hBw).mono ?_)
    rintro en w' ⟨rfl, hc⟩
    refine ⟨_, rfl, hc, bv (sixteen (att t i).s), rfl, ?_, List.all_eq_true.2 (fun v hv => bv_one _ v hv)⟩
    have e7 : (Dw.val 7 (-1) i).D tg t = [.agg ((sixteen (att t i).s).map byteD)] := by simp [Dw.D, valK]
    rw [e7, rep_one]
    simp only [Rep]
    exact (reps_bytes _ _).2 rfl
  ·cases h
 ·-- conversions
  split at h
  ·rename_i i e
   split at h
   ·rename_i kk hs ht
    simp only [Option.map_eq_some_iff] at h
    obtain ⟨c, hc, rfl⟩ := h
    obtain ⟨cs, hr, e2⟩ := k.eval e
    obtain ⟨s1, l1, u1, rfl, _⟩ := tree_cellsG hr
    simp only [List.getElem?_cons_zero, Option.some.injEq] at e2
    refine pure (ro_convInt hop e2.symm (isInt_out (intOfTy_out hs)) (isInt_out (intOfTy_out ht))) ⟨[_], rfl, ?_, rfl⟩
    simp only [Dw.D, rep_one, kindOf_val hc, Rep]
   ·cases h
  ·rename_i i e
   cases hb : isBytes P _ && isStr P _ with
   | false => rw [hb] at h; cases h
   | true =>
    rw [hb] at h; simp only [cond_true, Option.some.injEq] at h
    subst h
    rw [Bool.and_eq_true] at hb
    obtain ⟨cs, hr, e2⟩ := k.eval e
    obtain ⟨s1, l1, u1, rfl, hs1, _⟩ := tree_cellsG hr
    simp only [List.getElem?_cons_succ, List.getElem?_cons_zero, Option.some.injEq] at e2
    refine pure (ro_toStr hop e2.symm (rep_bytesAt hs1) hb.1 hb.2) ⟨[_], rfl, ?_, rfl⟩
    simp [Dw.D, rep_one, valK, Rep]
  ·cases h
 ·-- the last bit
  split at h
  ·rename_i i e
   cases h
   obtain ⟨cs, hr, e2⟩ := k.eval e
   obtain ⟨s1, l1, u1, rfl, _⟩ := tree_cellsG hr
   simp only [List.getElem?_cons_zero, Option.some.injEq] at e2
   exact pure (ro_and hop e2.symm rfl (and1 _)) rfl
  ·cases h
 ·split at h
  ·rename_i i e
   cases h
   refine pure (ro_eql hop (k.eval e) rfl) ⟨[_], rfl, ?_, rfl⟩
   simp only [Dw.D, rep_one, valK, if_true, Rep]
   congr 2
  ·cases h
 ·split at h
  ·rename_i i e
   cases h
   obtain ⟨cs, hr, e2⟩ := k.eval e
   obtain ⟨s1, l1, u1, rfl, _⟩ := tree_cellsG hr
   simp only [List.getElem?_cons_succ, List.getElem?_cons_zero, Option.some.injEq] at e2
   exact pure (ro_not hop e2.symm) rfl
  ·cases h
 ·split at h
  ·rename_i i e
   cases hb : (elemSize P _).isSome with
   | false => rw [hb] at h; cases h
   | true =>
    rw [hb] at h; simp only [cond_true, Option.some.injEq] at h
    subst h
    obtain ⟨cs, hr, e2⟩ := k.eval e
    obtain ⟨s1, l1, u1, rfl, _, hl1, _⟩ := tree_cellsG hr
    simp only [List.getElem?_cons_succ, List.getElem?_cons_zero, Option.some.injEq] at e2
    obtain ⟨b, c, rfl, _⟩ := sq_shape hl1
    refine pure (ro_len hop e2.symm hb) ?_
    simp [dnF]
  ·rename_i e
   cases hb : (elemSize P _).isSome with
   | false => rw [hb] at h; cases h
   | true =>
    rw [hb] at h; simp only [cond_true, Option.some.injEq] at h
    subst h
    have e2 := k.eval e
    simp only [dnF, List.getElem?_cons_succ, List.getElem?_cons_zero, Option.some.injEq] at e2
    obtain ⟨b, c, rfl, _⟩ := sq_shape huv
    refine pure (ro_len hop e2.symm hb) ?_
    simp [dnF]
  ·cases h
 ·split at h
  ·rename_i i e
   cases hb : Nat.beq i i0 with
   | false => rw [hb] at h; cases h
   | true =>
    rw [hb] at h; simp only [cond_true, Option.map_eq_some_iff] at h
    obtain ⟨p, hp, rfl⟩ := h
    have := beq_out hb; subst this
    obtain ⟨p1, p2, p3⟩ := mrTy_out hp
    have hlen : (att t i).l.length ≤ many := by cases f0; simp only [GiveF] at hg; exact hg.2.1
    refine do_makeRow hop p1 (k.eval e) hlen hlo (fun w' hr hgr hs => ⟨Chg.grown0 hgr, _, _, rfl, hr, ?_⟩)
    have := hf.lt; omega
  ·cases h
 ·cases h
theorem opsF_ok (hK : FkOk P K tg) (hf : Fb B l0 vb) {tT : TypeId} {i0 : Nat} {f0 : Fld} (hg : GiveF tg f0 (att t i0)) {ops : Array Oper} {Q : Exit → Act → World → Prop} {L : Sl} {post : List Oper} : ∀ (l : List Oper) {A A' : FA} {a : Act} {w : World}, opsF P K i0 f0 N (L.map (·.1)) A l = some A' → FWd B vb tb tT tcs t w → KnF N B l0 vb tb lo tcs tg t w a A → Kn N a L → lo ≤ w.heap.size → l0 ≤ w.heap.size →
  (∀ a' w', Chg (fun _ => False) w w' → FWd B vb tb tT tcs t w' → KnF N B l0 vb tb lo tcs tg t w' a' A' → Kn N a' L → wpList P ops Q post a' w') → wpList P ops Q (l ++ post) a w
 | [], A, A', a, w, h, hF, k, kL, hlo, hvb, hq => by
  simp only [opsF, Option.some.injEq] at h
  subst h
  exact hq a w (Chg.refl _ _) hF k kL
 | o :: r, A, A', a, w, h, hF, k, kL, hlo, hvb, hq => by
  unfold opsF at h
  split at h
  ·rename_i h0; cases h0
  ·rename_i d op ty pos aft r' h0
   cases h0
   cases hb : Nat.blt d N && (L.map (·.1)).all (fun s => !Nat.beq s d) with
   | false => rw [hb] at h; cases h
   | true =>
    rw [hb] at h
    simp only [cond_true] at h
    rw [Bool.and_eq_true] at hb
    split at h
    ·rename_i x hx
     refine wpList_plain rfl (fun KK hKK => opF_ok hK hf hg hF k (o := ⟨some d, op, ty, pos, aft, none⟩) hx hlo hvb KK Q (fun v w' hv => hKK _ _ ?_))
     obtain ⟨hc, hv⟩ := hv
     refine opsF_ok hK hf hg r h (hF.up hf hc hvb (no_false hc)) ((k.up hf hc hvb (no_false hc)).put hb.1 hv) (kL.putOther v (lk_noneS hb.2)) (by have := hc.size; omega) (by have := hc.size; omega) (fun a' w'' hc' hF' k' kL' => hq a' w'' (hc.trans hc') hF' k' kL')
    ·cases h
  ·cases h
end
end Go.Proofs.YtgpnpfiafcakfaaGreat

namespace Go.Proofs.YtgpnpfiafcakfaaGreat
open Go Go.RowKit
def FSt (B l0 vb : Nat) (e : TypeId) (w : World) (ds : List D) : Prop := ∃ cs, Box w vb cs e ∧ Reps (In B l0 w) w ds cs
theorem FSt.up {B l0 vb : Nat} (hf : Fb B l0 vb) {e : TypeId} {S : Nat → Prop} {w w' : World} {ds : List D} (h : FSt B l0 vb e w ds) (hc : Chg S w w') (hs : ∀ j, S j → w.heap.size ≤ j) : FSt B l0 vb e w' ds := by
 obtain ⟨cs, hb, hr⟩ := h
 exact ⟨cs, hb.chg hc (fun hj => by have := hs _ hj; have := hb.lt; omega), In.ups hf hr hc (fun j hj => .inr (hs j hj))⟩
theorem FSt.lt {B l0 vb : Nat} {e : TypeId} {w : World} {ds : List D} (h : FSt B l0 vb e w ds) : vb < w.heap.size := by obtain ⟨cs, hb, _⟩ := h; exact hb.lt
section
variable {P : Program} {a : Act} {w : World} {o : Oper}
theorem do_storeSeg {x y : Operand} {b off : Nat} {t e : TypeId} {vs seg A C : List Value} {v : Value} {R : Value → World → Prop} (hop : o.op = .store t x y) (hx : a.eval x = .pointer (some ⟨b, off, none⟩)) (hy : a.eval y = v) (hv : v.cells = vs.toArray) (hsz : sizeIs P t vs.length = true)
  (h1 : (vs.all fun v => v.oneCell') = true) (hB : Box w b (A ++ seg ++ C) e) (hA : A.length = off) (hl : seg.length = vs.length) (h : ∀ w', Box w' b (A ++ vs ++ C) e → w.grownBy w' (some b) → R undef w') : Does P o a w R := by
 cases o; simp only at hop; subst hop
 have hst := run_storeCells_at P b off e vs 0 (A ++ seg ++ C).toArray w hB (by simp; omega) (fun u hu => List.all_eq_true.1 h1 u hu)
 simp only [Nat.add_zero] at hst
 have hnew : ((A ++ seg ++ C).toArray.toList.take off ++ vs ++ (A ++ seg ++ C).toArray.toList.drop (off + vs.length)) = A ++ vs ++ C := by
  subst hA
  simp only []
  rw [List.append_assoc A seg C, List.take_left', ← hl, ← List.append_assoc, ← List.length_append, List.drop_left']
  ·rfl
  ·rfl
 refine does_skip (w' := w.setRow b (A ++ vs ++ C).toArray) ?_ (h _ ?_ ?_)
 ·unfold sizeIs at hsz
  split at hsz
  ·rename_i i hi
   have hsz' := beq_out hsz
   rw [hnew] at hst
   simp [execOp, hx, hy, Instr.storeAt, Instr.sureAddr, storeVar, hv, sizeOf, typeInfo, hi, hsz', hst]
  ·cases hsz
 ·exact setRow_heap w b _ _ _ _ hB
 ·exact ⟨rfl, rfl, rfl, by simp, fun k' _ hk => setRow_other w b k' _ (fun e' => hk (by rw [e']))⟩
end
def FA0 (vs ts : Nat) : FA := [(vs, .vp 0), (ts, .tb)]
theorem knF0 {N B l0 vb tb lo vs ts : Nat} {tcs : List Value} {tg : Bool} {t : Tree} {w : World} {a : Act} {L : Sl} (k : Kn N a L) (h1 : lk L vs = some (.pointer (some ⟨vb, 0, none⟩))) (h2 : lk L ts = some (.pointer (some ⟨tb, 0, none⟩))) : KnF N B l0 vb tb lo tcs tg t w a (FA0 vs ts) := by
 refine ⟨k.size, k.defers, fun s x e => ?_⟩
 simp only [FA0, lkF] at e
 cases hb : Nat.beq vs s with
 | true =>
  rw [hb] at e; simp only [cond_true, Option.some.injEq] at e
  have := beq_out hb; subst this; subst e
  exact k.at_ _ _ h1
 | false =>
  rw [hb] at e; simp only [cond_false] at e
  cases hb2 : Nat.beq ts s with
  | true =>
   rw [hb2] at e; simp only [cond_true, Option.some.injEq] at e
   have := beq_out hb2; subst this; subst e
   exact k.at_ _ _ h2
  | false => rw [hb2] at e; cases e
def fieldX (kind nul : Int) (sub : List Fld) (i : Nat) : Fw → Bool
 | .dv (.val k n j) => Nat.beq j i && decide (k = kind) && (if k = 8 then decide (0 ≤ n) == decide (0 ≤ nul) else if k = 9 then decide (0 ≤ n) else decide (k = 0) || decide (k = 1) || decide (k = 2) || decide (k = 3) || decide (k = 5) || decide (k = 7))
 | .dv (.sub fs j) => Nat.beq j i && decide (kind = 10) && decide (nul < 0) && fldsEq fs sub
 | .dv (.psub fs j) => Nat.beq j i && decide (kind = 10) && decide (0 ≤ nul) && fldsEq fs sub
 | .fd j 0 => Nat.beq j i && !decide (kind = 0) && !decide (kind = 1) && !decide (kind = 2) && !decide (kind = 3) && !decide (kind = 5) && !decide (kind = 7) && !decide (kind = 8) && !decide (kind = 9) && !decide (kind = 10) && !decide (kind = 11)
 | _ => false
def fieldW : Fld → Nat → Fw → Bool
 | .mk kind _ _ nul _ _ _ sub, i, x => fieldX kind nul sub i x
theorem sl_sq {ok : Nat → Prop} {w : World} {b : Bool} {ds : List D} {cs : List Value} (h : Rep ok w (.sl b ds) cs) : Rep ok w (.sq ds) cs := by
 simp only [Rep] at h ⊢
 obtain ⟨a, c, e, hle, h1, h2⟩ := h
 refine ⟨a, c, e, hle, ?_⟩
 cases b with
 | true => exact .inl (h1 rfl).2.1
 | false => exact .inr (h2 rfl)
section
variable {P : Program} {K : Fk} {N B l0 vb tb lo : Nat} {tcs : List Value} {tg : Bool} {t : Tree} {w : World} {a : Act} {A : FA}
theorem fieldW_ok {f : Fld} {i : Nat} {x : Fw} (h : fieldW f i x = true) (hg : GiveF tg f (att t i)) {v : Value} (hv : dnF B l0 vb tb lo tcs tg t w x v) :
  ∃ vs, v.cells = vs.toArray ∧ Reps (In B l0 w) w (fieldK tg f (att t i)) vs ∧ (vs.all fun v => v.oneCell') = true := by
 cases f with
 | mk kind fr upto nul tag df of sub =>
 rw [fieldK_mk]
 simp only [fieldW] at h
 unfold fieldX at h
 split at h
 ·rename_i k n j
  simp only [Bool.and_eq_true, decide_eq_true_eq] at h
  obtain ⟨⟨h1, rfl⟩, h3⟩ := h
  have := beq_out h1; subst this
  obtain ⟨vs, e, hr, ho⟩ := hv
  refine ⟨vs, e, ?_, ho⟩
  simp only [Dw.D] at hr
  by_cases h8 : k = 8
  ·subst h8
   simp only [if_true, beq_iff_eq] at h3
   have : valK 8 n (att t j) = valK 8 nul (att t j) := by
    simp only [valK]
    simp only [decide_eq_decide] at h3
    simp [h3]
   rw [if_neg (by decide), if_neg (by decide), ← this]; exact hr
  ·rw [if_neg h8] at h3
   by_cases h9 : k = 9
   ·subst h9
    simp only [if_true, decide_eq_true_eq] at h3
    rw [if_neg (by decide), if_neg (by decide)]
    by_cases hn : 0 ≤ nul
    ·have : valK 9 n (att t j) = valK 9 nul (att t j) := by simp [valK, h3, hn]
     rw [← this]; exact hr
    ·simp only [GiveF] at hg
     have hnul := hg.2.2.1 trivial (by omega)
     have e1 : valK 9 n (att t j) = .sl false ((att t j).s.map byteD) := by simp [valK, h3, hnul]
     have e2 : valK 9 nul (att t j) = .sq ((att t j).s.map byteD) := by simp [valK, hn]
     rw [e1, rep_one] at hr
     rw [e2, rep_one]; exact sl_sq hr
   ·rw [if_neg h9] at h3
    simp only [Bool.or_eq_true, decide_eq_true_eq] at h3
    have : valK k n (att t j) = valK k nul (att t j) := by simp [valK, h8, h9]
    rw [if_neg (by omega), if_neg (by omega), ← this]; exact hr
 ·rename_i fs j
  simp only [Bool.and_eq_true, decide_eq_true_eq] at h
  obtain ⟨⟨⟨h1, rfl⟩, h3⟩, h4⟩ := h
  have := beq_out h1; subst this
  have := fldsEq_out _ _ h4; subst this
  rw [if_neg (by decide), if_pos rfl, if_neg (by omega)]
  exact hv
 ·rename_i fs j
  simp only [Bool.and_eq_true, decide_eq_true_eq] at h
  obtain ⟨⟨⟨h1, rfl⟩, h3⟩, h4⟩ := h
  have := beq_out h1; subst this
  have := fldsEq_out _ _ h4; subst this
  rw [if_neg (by decide), if_pos rfl, if_pos h3]
  exact hv
 ·rename_i j
  simp only [Bool.and_eq_true, Bool.not_eq_true', decide_eq_false_iff_not] at h
  obtain ⟨⟨⟨⟨⟨⟨⟨⟨⟨⟨h1, k0⟩, k1⟩, k2⟩, k3⟩, k5⟩, k7⟩, k8⟩, k9⟩, k10⟩, k11⟩ := h
  have := beq_out h1; subst this
  obtain ⟨cs, hr, e2⟩ := hv
  obtain ⟨s1, l1, u1, rfl, _⟩ := tree_cellsG hr
  simp only [List.getElem?_cons_zero, Option.some.injEq] at e2
  subst e2
  simp only [GiveF] at hg
  refine ⟨[.int .i64 (att t j).n], rfl, ?_, rfl⟩
  rw [if_neg k11, if_neg k10]
  have : valK kind nul (att t j) = .lit (.int .i64 (att t j).n) := by simp [valK, k0, k1, k2, k3, k5, k7, k8, k9, hg.1]
  rw [this, rep_one]; simp [Rep]
 ·cases h
def lastO : List Oper → Option (List Oper × Oper)
 | [] => none
 | [o] => some ([], o)
 | o :: r => (lastO r).map fun x => (o :: x.1, x.2)
theorem lastO_out : ∀ {l : List Oper} {x : List Oper × Oper}, lastO l = some x → l = x.1 ++ [x.2]
 | [], x, h => by cases h
 | [o], x, h => by simp only [lastO, Option.some.injEq] at h; subst h; rfl
 | o :: p :: r, x, h => by
  simp only [lastO, Option.map_eq_some_iff] at h
  obtain ⟨y, hy, rfl⟩ := h
  have := lastO_out (l := p :: r) (x := y) (by simpa [lastO] using hy)
  simp [this]
def scalarR (P : Program) (K : Fk) (N : Nat) (S : List Nat) (f : Fld) (i off vs ts n : Nat) (ops : List Oper) : Bool := match lastO ops with
 | some (init, ⟨none, .store ty x y, _, _, _, none⟩) => (match opsF P K i f N S (FA0 vs ts) init with
  | some A => (match evF A x, evF A y with
   | some (.vp o), some u => Nat.beq o off && fieldW f i u && sizeIs P ty n
   | _, _ => false)
  | none => false)
 | _ => false
theorem scalar_ok (hK : FkOk P K tg) (hf : Fb B l0 vb) {tT e : TypeId} {f : Fld} {i off vs ts n id : Nat} {Q : Exit → Act → World → Prop} {L : Sl} {l : List Oper} (hvs : lk L vs = some (.pointer (some ⟨vb, 0, none⟩))) (hts : lk L ts = some (.pointer (some ⟨tb, 0, none⟩))) (h : scalarR P K N (L.map (·.1)) f i off vs ts n l = true) (hg : GiveF tg f (att t i))
  {pre mid post : List D} (hS : FSt B l0 vb e w (pre ++ mid ++ post)) (hF : FWd B vb tb tT tcs t w) (hlo : lo ≤ w.heap.size) (hl0 : l0 ≤ w.heap.size) (hp : D.widths pre = off) (hm : D.widths mid = n) (hn : D.widths (fieldK tg f (att t i)) = n)
  (hq : ∀ w', FSt B l0 vb e w' (pre ++ fieldK tg f (att t i) ++ post) → Chg (fun j => j = vb ∨ w.heap.size ≤ j) w w' → QK .normal Q N L w') : WC (.region id l.toArray false) P Q N L w := by
 intro a k
 unfold scalarR at h
 split at h
 ·rename_i init ty x y _ _ _ hl
  have hl' := lastO_out hl
  simp only at hl'
  split at h
  ·rename_i A hA
   split at h
   ·rename_i o u hx hy
    simp only [Bool.and_eq_true] at h
    obtain ⟨⟨h1, h2⟩, h3⟩ := h
    have := beq_out h1; subst this
    refine wp_region_lit ?_
    subst hl'
    refine opsF_ok hK hf hg (lo := lo) (L := L) init hA hF (knF0 k hvs hts) k hlo hl0 (fun a' w' hc hF' kF kL => ?_)
    refine wpList_plain rfl (fun KK hKK => ?_)
    obtain ⟨vs', hv, hr, h1'⟩ := fieldW_ok h2 hg (kF.eval hy)
    obtain ⟨cs, hb, hrs⟩ := hS.up hf hc (fun _ h => h.elim)
    rw [List.append_assoc] at hrs
    obtain ⟨c1, c23, rfl, r1, r23⟩ := (Reps.app _ _ _).1 hrs
    obtain ⟨c2, c3, rfl, r2, r3⟩ := (Reps.app _ _ _).1 r23
    have lv := Reps.len _ _ hr
    have l1 := Reps.len _ _ r1
    have l2 := Reps.len _ _ r2
    refine do_storeSeg (R := fun _ w3 => FSt B l0 vb e w3 (pre ++ fieldK tg f (att t i) ++ post) ∧ Chg (fun j => j = vb ∨ w.heap.size ≤ j) w w3) (A := c1) (seg := c2) (C := c3) (vs := vs') rfl (kF.eval hx) rfl hv (by rw [lv, hn]; exact h3) h1' (by simpa [List.append_assoc] using hb) (by rw [l1, hp]) (by rw [l2, lv, hm, hn]) (fun w'' hb'' hg'' => ?_) KK Q (fun v w3 hR => hKK _ _ (hq w3 hR.1 hR.2 _ ⟨kL.size, kL.defers, kL.at_⟩))
    have hc2 : Chg (· = vb) w' w'' := Chg.grown hg''
    have up : ∀ {ds : List D} {cs : List Value}, Reps (In B l0 w') w' ds cs → Reps (In B l0 w'') w'' ds cs := fun hr => In.ups hf hr hc2 (fun j hj => .inl hj)
    refine ⟨⟨c1 ++ vs' ++ c3, hb'', ?_⟩, (hc.wide (fun _ h => h.elim)).trans (hc2.wide (fun j hj => .inl hj))⟩
    rw [List.append_assoc, List.append_assoc]
    exact (Reps.app _ _ _).2 ⟨c1, vs' ++ c3, rfl, up r1, (Reps.app _ _ _).2 ⟨vs', c3, rfl, up hr, up r3⟩⟩
   ·cases h
  ·cases h
 ·cases h
end
end Go.Proofs.YtgpnpfiafcakfaaGreat

namespace Go.Proofs.YtgpnpfiafcakfaaGreat
open Go Go.RowKit
structure Ep where
 ix : Nat
 n : Nat
 c : Nat
 sl : Nat
 p : Nat
 q : Nat
 xb : Nat
 u : Nat
 id : Nat
 id3 : Nat
 ti : Nat
 tl : Nat
 ta : Nat
 ts : Nat
 body : Code
def outS (S : List Nat) (d : Nat) : Bool := S.all fun s => !Nat.beq s d
def eachP (N : Nat) (S : List Nat) : Code → Option Ep
 | .block id (.loop (.seq (.region _ ⟨[⟨some c, .binOp .lss _ (.tmp ix) (.tmp n) _, _, _, _, none⟩]⟩ false) (.seq (.cond (.tmp c2) .skip (.exit id2)) (.seq (.block id3 (.seq (.region _ ⟨[⟨some p, .indexAddr ti (.tmp sl) (.tmp ix2), _, _, _, none⟩, ⟨some q, .load tl (.tmp p2), _, _, _, none⟩, ⟨some xb, .alloc ta, _, _, _, none⟩, ⟨none, .store ts (.tmp xb2) (.tmp q2), _, _, _, none⟩]⟩ false) body))
   (.region _ ⟨[⟨some u, .binOp .add _ (.tmp ix3) (.const (.int .i64 1)) _, _, _, _, none⟩, ⟨some ix4, .move (.tmp u2), _, _, _, none⟩]⟩ false))))) =>
  bif Nat.beq c c2 && Nat.beq id id2 && Nat.beq ix ix2 && Nat.beq p p2 && Nat.beq xb xb2 && Nat.beq q q2 && Nat.beq ix ix3 && Nat.beq ix ix4 && Nat.beq u u2 && Nat.blt c N && Nat.blt p N && Nat.blt q N && Nat.blt xb N && Nat.blt u N && Nat.blt ix N &&
   outS (n :: sl :: S) ix && outS (ix :: n :: sl :: S) c && outS (ix :: n :: sl :: S) p && outS (ix :: n :: sl :: S) q && outS (ix :: n :: sl :: S) xb && outS (ix :: n :: sl :: S) u && !Nat.beq q p && !Nat.beq xb p && !Nat.beq xb q then some ⟨ix, n, c, sl, p, q, xb, u, id, id3, ti, tl, ta, ts, body⟩ else none
 | _ => none
theorem bif_cond {α : Type} {b : Bool} {a x : α} (h : (bif b then some a else none) = some x) : b = true ∧ a = x := by
 cases b with
 | false => cases h
 | true => exact ⟨rfl, Option.some.inj h⟩
theorem nb_ne {a b : Nat} (h : Nat.beq a b = false) : a ≠ b := by rintro rfl; rw [Nat.beq_refl] at h; cases h
theorem outS_ne {S : List Nat} {d s : Nat} (h : outS S d = true) (hs : s ∈ S) : s ≠ d := by
 have := List.all_eq_true.1 h s hs
 intro e; subst e; rw [Nat.beq_refl] at this; cases this
theorem lk_ne {L : Sl} {d t : Nat} {v : Value} (h : d ≠ t) : lk ((d, v) :: L) t = lk L t := by
 simp only [lk]
 cases hb : Nat.beq d t with
 | true => exact absurd (beq_out hb) h
 | false => rfl
theorem lk_eq {L : Sl} {d : Nat} {v : Value} : lk ((d, v) :: L) d = some v := by simp [lk, Nat.beq_refl]
theorem lk_none_of {L : Sl} {d : Nat} (h : outS (L.map (·.1)) d = true) : lk L d = none := lk_noneS h
theorem Kn.drop {N : Nat} {a : Act} {L : Sl} {d : Nat} {v : Value} (h : Kn N a ((d, v) :: L)) (hd : lk L d = none) : Kn N a L :=
 ⟨h.size, h.defers, fun t u e => h.at_ t u (by rw [lk_ne (by rintro rfl; rw [hd] at e; cases e)]; exact e)⟩
theorem Kn.pick {N : Nat} {a : Act} {L F : Sl} (h : Kn N a L) (hF : ∀ t v, lk F t = some v → lk L t = some v) : Kn N a F := ⟨h.size, h.defers, fun t v e => h.at_ t v (hF t v e)⟩
section
variable {P : Program} {Q : Exit → Act → World → Prop} {N : Nat} {L : Sl} {w : World}
theorem wc_loopK {α : Type} {c : Code} (Lf : α → Sl) (Wf : α → World → Prop) (μ : α → Nat) (x : α) (hL : ∀ a : Act, Kn N a L → Kn N a (Lf x)) (hW : Wf x w)
  (round : ∀ y w', Wf y w' → WC c P (Exit.then (fun a' w'' => ∃ z, Kn N a' (Lf z) ∧ Wf z w'' ∧ μ z < μ y) Q) N (Lf y) w') : WC (.loop c) P Q N L w := by
 intro a k
 refine wp_loop_ghost (fun n a' w' => ∃ z, Kn N a' (Lf z) ∧ Wf z w' ∧ μ z = n) (μ x) ⟨x, hL a k, hW, rfl⟩ ?_
 rintro n a' w' ⟨y, ky, hy, rfl⟩
 refine wp_mono (round y w' hy a' ky) (fun e a'' w'' hq => ?_)
 cases e with
 | normal =>
  obtain ⟨z, kz, hz, hlt⟩ := hq
  exact ⟨μ z, hlt, z, kz, hz, rfl⟩
 | _ => exact hq
theorem wc_drop {c : Code} {d : Nat} {v : Value} (hd : lk L d = none) (h : WC c P Q N L w) : WC c P Q N ((d, v) :: L) w := fun a k => h a (k.drop hd)
theorem each_ok {c : Code} {q : Ep} {sz : Nat} {z : Value} {zs : List Value} (hq : eachP N (L.map (·.1)) c = some q) {len : Nat} (hl63 : len < 9223372036854775807) {slv : Value} (F : Sl) (hFL : ∀ t v, lk L t = some v → lk F t = some v) (hix : lk F q.ix = some (.int .i64 0)) (hn : lk F q.n = some (.int .i64 len)) (hsl : lk F q.sl = some slv)
  (hes : elemSize P q.ti = some sz) (hta : tyAgg P q.tl = some sz) (hz : ∀ w : World, (zeroValue q.ta).run P w = .ok z w) (hzs : z.cells = zs.toArray) (hzl : zs.length = sz) (hts : (P.info? q.ts).map (·.size) = some sz) (I : Nat → World → Prop) (El : Nat → World → List Value → Prop) (h0 : I 0 w)
  (elem : ∀ k w', k < len → I k w' → ∃ b off cs c', slv = .slice (some ⟨b, off, none⟩) len c' ∧ CellsAt w' b (off + k * sz) cs ∧ cs.length = sz ∧ (cs.all fun v => v.oneCell') = true ∧ El k w' cs)
  (body : ∀ k w', k < len → I k w' → ∀ cs w'', El k w' cs → Box w'' w'.heap.size cs q.ta → Chg (fun _ => False) w' w'' → w''.heap.size = w'.heap.size + 1 → ∀ (Q' : Exit → Act → World → Prop) (L' : Sl), L' = (q.xb, .pointer (some ⟨w'.heap.size, 0, none⟩)) :: (q.ix, .int .i64 k) :: (q.n, .int .i64 len) :: (q.sl, slv) :: L →
   (∀ w3, I (k + 1) w3 → QK .normal Q' N L' w3) → WC q.body P Q' N L' w'')
  (hend : ∀ w', I len w' → QK .normal Q N L w') : WC c P Q N F w := by
 unfold eachP at hq
 split at hq
 ·rename_i id i1 cc t0 ix n t1 x1 x2 x3 c2 id2 id3 i2 p ti sl ix2 y1 y2 y3 q1 tl p2 y4 y5 y6 xb ta y7 y8 y9 ts xb2 q2 z1 z2 z3 body' i3 u ty1 ix3 ty2 z4 z5 z6 ix4 u2 z7 z8 z9
  have hq' := bif_cond hq
  obtain ⟨hb, hqe⟩ := hq'
  subst hqe
  simp only [Bool.and_eq_true, Bool.not_eq_true'] at hb
  obtain ⟨⟨⟨⟨⟨⟨⟨⟨⟨⟨⟨⟨⟨⟨⟨⟨⟨⟨⟨⟨⟨⟨⟨b1, b2⟩, b3⟩, b4⟩, b5⟩, b6⟩, b7⟩, b8⟩, b9⟩, n1⟩, n2⟩, n3⟩, n4⟩, n5⟩, n6⟩, o1⟩, o2⟩, o3⟩, o4⟩, o5⟩, o6⟩, m1⟩, m2⟩, m3⟩ := hb
  have := beq_out b1; subst this
  have := beq_out b2; subst this
  have := beq_out b3; subst this
  have := beq_out b4; subst this
  have := beq_out b5; subst this
  have := beq_out b6; subst this
  have := beq_out b7; subst this
  have := beq_out b8; subst this
  have := beq_out b9; subst this
  simp only at hix hn hsl hes hta hz hts body
  have hm1 := nb_ne m1
  have hm2 := nb_ne m2
  have hm3 := nb_ne m3
  have k1 : n ≠ ix := outS_ne o1 (by simp)
  have k2 : sl ≠ ix := outS_ne o1 (by simp)
  have oS : ∀ {d : Nat}, outS (ix :: n :: sl :: L.map (·.1)) d = true → ix ≠ d ∧ n ≠ d ∧ sl ≠ d ∧ lk L d = none := by
   intro d h
   refine ⟨outS_ne h (by simp), outS_ne h (by simp), outS_ne h (by simp), lk_none_of ?_⟩
   unfold outS at h ⊢
   simp only [List.all_cons, Bool.and_eq_true] at h
   exact h.2.2.2
  obtain ⟨c_1, c_2, c_3, c_4⟩ := oS o2
  obtain ⟨p_1, p_2, p_3, p_4⟩ := oS o3
  obtain ⟨q_1, q_2, q_3, q_4⟩ := oS o4
  obtain ⟨xb_1, xb_2, xb_3, xb_4⟩ := oS o5
  obtain ⟨u_1, u_2, u_3, u_4⟩ := oS o6
  have ixL : lk L ix = none := lk_none_of (by unfold outS at o1; simp only [List.all_cons, Bool.and_eq_true] at o1; exact o1.2.2)
  have lkR : ∀ (k : Nat) (d : Nat), ix ≠ d → n ≠ d → sl ≠ d → lk L d = none → lk ((ix, Value.int .i64 k) :: (n, .int .i64 len) :: (sl, slv) :: L) d = none := by
   intro k d h1 h2 h3 h4
   rw [lk_ne h1, lk_ne h2, lk_ne h3, h4]
  refine wc_block (wc_loopK (α := Nat) (fun k => (ix, .int .i64 k) :: (n, .int .i64 len) :: (sl, slv) :: L) (fun k w' => k ≤ len ∧ I k w') (fun k => len - k) 0 (fun a k => ?_) ⟨Nat.zero_le _, h0⟩ ?_)
  ·refine ⟨k.size, k.defers, fun t v e => k.at_ t v ?_⟩
   simp only [lk] at e
   cases e1 : Nat.beq ix t with
   | true => rw [e1] at e; simp only [cond_true, Option.some.injEq] at e; rw [← beq_out e1, ← e]; exact hix
   | false =>
    rw [e1] at e; simp only [cond_false] at e
    cases e2 : Nat.beq n t with
    | true => rw [e2] at e; simp only [cond_true, Option.some.injEq] at e; rw [← beq_out e2, ← e]; exact hn
    | false =>
     rw [e2] at e; simp only [cond_false] at e
     cases e3 : Nat.beq sl t with
     | true => rw [e3] at e; simp only [cond_true, Option.some.injEq] at e; rw [← beq_out e3, ← e]; exact hsl
     | false => rw [e3] at e; exact hFL t v e
  ·rintro k w' ⟨hk, hI⟩
   refine wc_seq (wc_region (l := [_]) (wl_lss (m := (k : Int)) (n := (len : Int)) lk_eq (by simp only [ev]; rw [lk_ne k1.symm, lk_eq]) n1 (wl_nil (qk_thn ?_))))
   by_cases hlt : k < len
   ·refine wc_seq (wc_cond (t := true) (by simp only [ev]; rw [lk_eq]; simp [hlt]) (fun _ => wc_skip (qk_thn ?_)) (fun e => by cases e))
    refine wc_drop (lkR k _ c_1 c_2 c_3 c_4) ?_
    obtain ⟨b, off, cs, c', hs, hc, hcl, hone, hel⟩ := elem k w' hlt hI
    refine wc_seq (wc_block (wc_seq (wc_region (l := [_, _, _, _]) ?_)))
    refine wl_indexAddr (b := b) (o := off) (n := len) (c := c') (i := k) (by simp only [ev]; rw [lk_ne k2.symm, lk_ne (by rintro rfl; exact absurd hn (by rw [hsl, hs]; simp)), lk_eq, hs]) (by simp only [ev]; rw [lk_eq]) hes n2 hlt ?_
    refine wl_loadAgg (cs := cs) (by simp only [ev]; rw [lk_eq]) (by rw [hcl]; exact hta) n3 (fun j v e => hc.cell e) ?_
    refine wl_alloc hz hzs n4 (fun w1 hb1 hg1 hs1 => ?_)
    refine wl_storeBAgg (v := .agg cs.toArray) (vs := cs) (by simp only [ev]; rw [lk_eq]) (by simp only [ev]; rw [lk_ne hm3, lk_eq]) rfl (by rw [hcl]; exact hts) hone hb1 (by rw [hzl, hcl]) (fun w2 hb2 hg2 hs2 => ?_)
    refine wl_nil (qk_thn ?_)
    have hch : Chg (fun _ => False) w' w2 := ⟨hg2.os.trans hg1.os, hg2.tape.trans hg1.tape, hg2.output.trans hg1.output, by omega, fun j hj _ => (hg2.block j (by omega) (by simp; omega)).trans (hg1.block j hj (by simp))⟩
    have main := body k w' hlt hI cs w2 hel hb2 hch (by omega) (Exit.inBlock id3 (Thn P (.region i3 #[⟨some u, .binOp .add ty1 (.tmp ix) (.const (.int .i64 1)) ty2, z4, z5, z6, none⟩, ⟨some ix, .move (.tmp u), z7, z8, z9, none⟩] false) (Exit.then (fun a' w'' => ∃ z : Nat, Kn N a' ((ix, Value.int .i64 (z : Int)) :: (n, .int .i64 len) :: (sl, slv) :: L) ∧ (z ≤ len ∧ I z w'') ∧ len - z < len - k) (Exit.inBlock id Q)))) _ rfl ?_
    ·intro a ka
     refine main a ?_
     have h1 : Kn N a ((xb, Value.pointer (some ⟨w'.heap.size, 0, none⟩)) :: (q1, Value.agg cs.toArray) :: (p, Value.pointer (some ⟨b, off + k * sz, none⟩)) :: (ix, .int .i64 k) :: (n, .int .i64 len) :: (sl, slv) :: L) := ka
     refine h1.pick (fun t v e => ?_)
     by_cases e1 : xb = t
     ·subst e1; rw [lk_eq] at e ⊢; exact e
     ·rw [lk_ne e1] at e ⊢
      have e2 : q1 ≠ t := by rintro rfl; rw [lkR k _ q_1 q_2 q_3 q_4] at e; cases e
      have e3 : p ≠ t := by rintro rfl; rw [lkR k _ p_1 p_2 p_3 p_4] at e; cases e
      rw [lk_ne e2, lk_ne e3]; exact e
    ·intro w3 hI3
     refine qk_in (qk_thn (wc_drop (lkR k _ xb_1 xb_2 xb_3 xb_4) (wc_region (l := [_, _]) ?_)))
     refine wl_add (kk := .i64) (m := (k : Int)) (n := 1) (r := ((k + 1 : Nat) : Int)) (by simp only [ev]; rw [lk_eq]) rfl n5 ?_ ?_
     ·rw [IntKind.wrap_i64]; omega
     refine wl_move (v := .int .i64 ((k + 1 : Nat) : Int)) (by simp only [ev]; rw [lk_eq]) n6 (wl_nil (fun a ka => ⟨k + 1, ?_, ⟨by omega, hI3⟩, by omega⟩))
     refine ka.pick (fun t v e => ?_)
     by_cases e1 : ix = t
     ·subst e1; rw [lk_eq] at e ⊢; exact e
     ·rw [lk_ne e1] at e ⊢
      have e2 : u ≠ t := by rintro rfl; rw [lk_ne u_2, lk_ne u_3, u_4] at e; cases e
      rw [lk_ne e2, lk_ne e1]; exact e
   ·refine wc_seq (wc_cond (t := false) (by simp only [ev]; rw [lk_eq]; simp [hlt]) (fun e => by cases e) (fun _ => ?_))
    have : k = len := by omega
    subst this
    refine wc_exit (qk_thn_exit (qk_round_exit (qk_in_exit (fun a ka => hend w' hI a (ka.pick (fun t v e => ?_))))))
    have hF := hFL t v e
    by_cases e1 : cc = t
    ·subst e1; rw [c_4] at e; cases e
    rw [lk_ne e1]
    by_cases e2 : ix = t
    ·subst e2; rw [ixL] at e; cases e
    rw [lk_ne e2]
    by_cases e3 : n = t
    ·subst e3; rw [lk_eq]; rw [hn] at hF; exact hF
    rw [lk_ne e3]
    by_cases e4 : sl = t
    ·subst e4; rw [lk_eq]; rw [hsl] at hF; exact hF
    rw [lk_ne e4]; exact e
 ·cases hq
end
end Go.Proofs.YtgpnpfiafcakfaaGreat

namespace Go.Proofs.YtgpnpfiafcakfaaGreat
open Go Go.RowKit
inductive Rl where
 | vp (o : Nat) | row | xp (k : Nat) | xf (k : Nat) | xw | cv (kind : Int)
def litV : D → Value
 | .lit v => v
 | _ => undef
def Rl.v (vb xbk : Nat) (d : Value) (xcs : List Value) (x : Tree) : Rl → Value
 | .vp o => .pointer (some ⟨vb, o, none⟩)
 | .row => d
 | .xp k => .pointer (some ⟨xbk, k, none⟩)
 | .xf k => xcs.getD k undef
 | .xw => .agg xcs.toArray
 | .cv kind => litV (valK kind (-1) x)
def idxOf (ops : List Oper) (s : Nat) : Option Nat := (List.range ops.length).find? fun j => dstOf ops j == some s
def opR (fl : Bool) (ops : List Oper) (vs xb : Nat) (acc : Nat → Option Rl) (i : Nat) : Operand → Option Rl
 | .tmp s => bif Nat.beq s vs then some (.vp 0) else bif Nat.beq s xb then some (.xp 0) else (match idxOf ops s with
  | some j => bif (prs fl ops i).contains j then acc j else none
  | none => none)
 | _ => none
def rolOp (P : Program) (off : Nat) (e : Operand → Option Rl) : Op → Option Rl
 | .move x => e x
 | .nilCheck x => match e x with | some (.vp o) => some (.vp o) | _ => none
 | .fieldAddr s x f => match e x with
  | some (.vp o) => (fieldOff P s f).map fun k => .vp (o + k)
  | some (.xp o) => (fieldOff P s f).map fun k => .xp (o + k)
  | _ => none
 | .load t x => match e x with
  | some (.vp o) => bif Nat.beq o off && tyOne P t then some .row else none
  | some (.xp k) => bif tyOne P t && Nat.blt k 5 then some (.xf k) else (match tyAgg P t with | some n => bif Nat.beq k 0 && Nat.beq n 5 then some .xw else none | none => none)
  | _ => none
 | .convert s t x => match e x with
  | some (.xf 0) => (match intOfTy P s, intOfTy P t with
   | some .i64, some k => (kindOf k).map fun c => .cv c
   | _, _ => none)
  | some (.xf 1) => bif isBytes P s && isStr P t then some (.cv 8) else none
  | _ => none
 | _ => none
def rolAt (P : Program) (fl : Bool) (ops : List Oper) (vs xb off : Nat) : Nat → Nat → Option Rl
 | 0, _ => none
 | n + 1, i => match ops[i]? with
  | some o => rolOp P off (opR fl ops vs xb (rolAt P fl ops vs xb off n) i) o.op
  | none => none
theorem rolOp_mono {P : Program} {off : Nat} {e e' : Operand → Option Rl} (he : ∀ x r, e x = some r → e' x = some r) {op : Op} {r : Rl} (h : rolOp P off e op = some r) : rolOp P off e' op = some r := by
 unfold rolOp at h ⊢
 split at h
 ·exact he _ _ h
 ·split at h
  ·rename_i hx; simp only [he _ _ hx]; exact h
  ·cases h
 ·split at h
  ·rename_i hx; simp only [he _ _ hx]; exact h
  ·rename_i hx; simp only [he _ _ hx]; exact h
  ·cases h
 ·split at h
  ·rename_i hx; simp only [he _ _ hx]; exact h
  ·rename_i hx; simp only [he _ _ hx]; exact h
  ·cases h
 ·split at h
  ·rename_i hx; simp only [he _ _ hx]; exact h
  ·rename_i hx; simp only [he _ _ hx]; exact h
  ·cases h
 ·cases h
theorem opR_mono {fl : Bool} {ops : List Oper} {vs xb i : Nat} {acc acc' : Nat → Option Rl} (ha : ∀ j r, acc j = some r → acc' j = some r) (x : Operand) (r : Rl) (h : opR fl ops vs xb acc i x = some r) : opR fl ops vs xb acc' i x = some r := by
 unfold opR at h ⊢
 split at h
 ·rename_i s
  cases h1 : Nat.beq s vs with
  | true => rw [h1] at h; exact h
  | false =>
   rw [h1] at h; simp only [cond_false] at h ⊢
   cases h2 : Nat.beq s xb with
   | true => rw [h2] at h; exact h
   | false =>
    rw [h2] at h; simp only [cond_false] at h ⊢
    split at h
    ·rename_i j hj
     cases h3 : (prs fl ops i).contains j with
     | false => rw [h3] at h; cases h
     | true => rw [h3] at h; exact ha _ _ h
    ·cases h
 ·cases h
theorem rolAt_mono {P : Program} {fl : Bool} {ops : List Oper} {vs xb off : Nat} : ∀ (n i : Nat) (r : Rl), rolAt P fl ops vs xb off n i = some r → rolAt P fl ops vs xb off (n + 1) i = some r
 | 0, i, r, h => by cases h
 | n + 1, i, r, h => by
  unfold rolAt at h ⊢
  split at h
  ·rename_i o ho
   exact rolOp_mono (fun x r hx => opR_mono (fun j r hj => rolAt_mono n j r hj) x r hx) h
  ·cases h
theorem idxOf_out {ops : List Oper} {s j : Nat} (h : idxOf ops s = some j) : dstOf ops j = some s := by
 have := List.find?_some h
 simpa using this
section
variable {P : Program} {a : Act} {w : World} {o : Oper}
structure RlW (vb xbk off : Nat) (d : Value) (xcs : List Value) (x : Tree) (e tX : TypeId) (cells : List Value) (w : World) : Prop where
 st : Box w vb cells e
 row : cells[off]? = some d
 xb : Box w xbk xcs tX
 rep : ∃ ok : Nat → Prop, Rep ok w (treeD x) xcs
theorem getD_some {l : List Value} {k : Nat} {v : Value} (h : l[k]? = some v) : l.getD k undef = v := by simp [List.getD, h]
theorem rolOp_ok {vb xbk off : Nat} {d : Value} {xcs : List Value} {x : Tree} {eT tX : TypeId} {cells : List Value} (hW : RlW vb xbk off d xcs x eT tX cells w) {e : Operand → Option Rl} (he : ∀ y r, e y = some r → a.eval y = r.v vb xbk d xcs x) {r : Rl} (h : rolOp P off e o.op = some r) :
  (execOp a.eval o).run P w = .ok (.value (r.v vb xbk d xcs x)) w := by
 obtain ⟨ok, hr⟩ := hW.rep
 obtain ⟨sv, lv, uv, hxc, hs, _⟩ := tree_cellsG hr
 generalize hop : o.op = op at h
 unfold rolOp at h
 split at h
 ·have := he _ _ h; rw [← this]; exact ro_move hop
 ·split at h
  ·rename_i hx; cases h; exact ro_nilCheck hop (he _ _ hx)
  ·cases h
 ·split at h
  ·rename_i hx
   simp only [Option.map_eq_some_iff] at h
   obtain ⟨k, hk, rfl⟩ := h
   exact ro_fieldAddr hop (he _ _ hx) hk
  ·rename_i hx
   simp only [Option.map_eq_some_iff] at h
   obtain ⟨k, hk, rfl⟩ := h
   exact ro_fieldAddr hop (he _ _ hx) hk
  ·cases h
 ·split at h
  ·rename_i o' hx
   obtain ⟨hb, rfl⟩ := bif_cond h
   rw [Bool.and_eq_true] at hb
   have := beq_out hb.1; subst this
   exact ro_load hop (he _ _ hx) hb.2 (hW.st.cell hW.row)
  ·rename_i k hx
   cases hb : tyOne P _ && Nat.blt k 5 with
   | true =>
    rw [hb] at h; simp only [cond_true, Option.some.injEq] at h
    subst h
    rw [Bool.and_eq_true] at hb
    have hk : k < xcs.length := by rw [hxc]; exact Nat.le_of_ble_eq_true hb.2
    have hv : xcs[k]? = some xcs[k] := List.getElem?_eq_getElem hk
    have e2 : Rl.v vb xbk d xcs x (.xf k) = xcs[k] := getD_some hv
    rw [e2]
    exact ro_load hop (he _ _ hx) hb.1 (hW.xb.cell hv)
   | false =>
    rw [hb] at h; simp only [cond_false] at h
    split at h
    ·rename_i n hn
     obtain ⟨hb2, rfl⟩ := bif_cond h
     rw [Bool.and_eq_true] at hb2
     have := beq_out hb2.1; subst this
     have := beq_out hb2.2; subst this
     exact ro_loadAgg hop (he _ _ hx) (by rw [hn, hxc]; rfl) (fun j v e => by rw [Nat.zero_add]; exact hW.xb.cell e)
    ·cases h
  ·cases h
 ·split at h
  ·rename_i hx
   split at h
   ·rename_i k hs1 ht1
    simp only [Option.map_eq_some_iff] at h
    obtain ⟨c, hc, rfl⟩ := h
    have e1 := he _ _ hx
    simp only [Rl.v, hxc] at e1
    have e2 : Rl.v vb xbk d xcs x (.cv c) = .int k (k.wrap x.n) := by simp only [Rl.v, kindOf_val hc, litV]
    rw [e2]
    exact ro_convInt hop e1 (isInt_out (intOfTy_out hs1)) (isInt_out (intOfTy_out ht1))
   ·cases h
  ·rename_i hx
   obtain ⟨hb, rfl⟩ := bif_cond h
   rw [Bool.and_eq_true] at hb
   have e1 := he _ _ hx
   simp only [Rl.v, hxc] at e1
   have e2 : Rl.v vb xbk d xcs x (.cv 8) = strV x.s := by simp [Rl.v, valK, litV]
   rw [e2]
   exact ro_toStr hop e1 (rep_bytesAt hs) hb.1 hb.2
  ·cases h
 ·cases h
theorem opR_ok {N : Nat} {L : Sl} {fl : Bool} {ops : List Oper} {vs xb i vb xbk : Nat} {d : Value} {xcs : List Value} {x : Tree} {acc : Nat → Option Rl} (k : Kn N a L) (hvs : lk L vs = some (.pointer (some ⟨vb, 0, none⟩))) (hxb : lk L xb = some (.pointer (some ⟨xbk, 0, none⟩)))
  (hf : ∀ j ∈ prs fl ops i, ∀ dd, dstOf ops j = some dd → ∀ r, acc j = some r → gt a dd = r.v vb xbk d xcs x) (y : Operand) (r : Rl) (h : opR fl ops vs xb acc i y = some r) : a.eval y = r.v vb xbk d xcs x := by
 unfold opR at h
 split at h
 ·rename_i s
  cases h1 : Nat.beq s vs with
  | true =>
   rw [h1] at h; simp only [cond_true, Option.some.injEq] at h
   subst h
   have := beq_out h1; subst this
   exact k.at_ _ _ hvs
  | false =>
   rw [h1] at h; simp only [cond_false] at h
   cases h2 : Nat.beq s xb with
   | true =>
    rw [h2] at h; simp only [cond_true, Option.some.injEq] at h
    subst h
    have := beq_out h2; subst this
    exact k.at_ _ _ hxb
   | false =>
    rw [h2] at h; simp only [cond_false] at h
    split at h
    ·rename_i j hj
     cases h3 : (prs fl ops i).contains j with
     | false => rw [h3] at h; cases h
     | true =>
      rw [h3] at h
      exact hf j (by simpa using h3) s (idxOf_out hj) r h
    ·cases h
 ·cases h
end
end Go.Proofs.YtgpnpfiafcakfaaGreat

namespace Go.Proofs.YtgpnpfiafcakfaaGreat
open Go Go.RowKit
def actAt (ops : List Oper) (p : Op → Bool) : Option Nat := (List.range ops.length).find? fun i => match ops[i]? with | some o => p o.op | none => false
def isSlice1 : Op → Bool
 | .buildSlice _ 1 ⟨[(0, _)]⟩ => true
 | _ => false
def isApp : Op → Bool
 | .call ⟨.builtin .append, _, _⟩ => true
 | _ => false
def isCall1 : Op → Bool
 | .call ⟨.value (.func _), ⟨[_]⟩, _⟩ => true
 | _ => false
def actRef (fl : Bool) (ops : List Oper) (i j : Nat) : Operand → Bool
 | .tmp s => dstOf ops j == some s && (prs fl ops i).contains j
 | _ => false
theorem actRef_out {fl : Bool} {ops : List Oper} {i j : Nat} {x : Operand} (h : actRef fl ops i j x = true) : ∃ s, x = .tmp s ∧ dstOf ops j = some s ∧ j ∈ prs fl ops i := by
 unfold actRef at h
 split at h
 ·rename_i s
  rw [Bool.and_eq_true] at h
  exact ⟨s, rfl, by simpa using h.1, by simpa using h.2⟩
 ·cases h
def valOf (of : Int) : Rl → Bool
 | .cv k => decide (k = of) && (decide (k = 1) || decide (k = 2) || decide (k = 3) || decide (k = 5) || decide (k = 8))
 | .xf 0 => !decide (of = 0) && !decide (of = 1) && !decide (of = 2) && !decide (of = 3) && !decide (of = 5) && !decide (of = 7) && !decide (of = 8) && !decide (of = 9) && !decide (of = 10)
 | _ => false
def elK (tg : Bool) (of : Int) (sub : List Fld) (x : Tree) : D := if of = 10 then .agg (partK tg sub x) else valK of (-1) x
def isRow : Option Rl → Bool
 | some .row => true
 | _ => false
def isXw : Option Rl → Bool
 | some .xw => true
 | _ => false
def isVp (off : Nat) : Option Rl → Bool
 | some (.vp o) => Nat.beq o off
 | _ => false
def sliceOk (P : Program) (fl : Bool) (ops : List Oper) (e : Operand → Option Rl) (of : Int) (tE sz isl : Nat) (ic : Option Nat) : Op → Bool
 | .buildSlice t 1 ⟨[(0, x)]⟩ => rowTy P t tE sz && (match ic with
  | some c => actRef fl ops isl c x
  | none => (match e x with | some r => valOf of r | none => false))
 | _ => false
def appOk (P : Program) (fl : Bool) (ops : List Oper) (e : Operand → Option Rl) (tE sz iap isl : Nat) : Op → Bool
 | .call ⟨.builtin .append, ⟨[y, z]⟩, ⟨[t2, t3]⟩⟩ => rowTy P t2 tE sz && Nat.beq t2 t3 && isRow (e y) && actRef fl ops iap isl z
 | _ => false
def stOk (P : Program) (fl : Bool) (ops : List Oper) (e : Operand → Option Rl) (off ist iap : Nat) : Op → Bool
 | .store ty p v => tyOne P ty && isVp off (e p) && actRef fl ops ist iap v
 | _ => false
def callOk (P : Program) (K : Fk) (e : Operand → Option Rl) (of : Int) (sub : List Fld) : Op → Bool
 | .call ⟨.value (.func f), ⟨[x]⟩, _⟩ => isXw (e x) && decide (of = 10) && (match lkM K.mks f with | some fs => fldsEq fs sub | none => false)
 | _ => false
def opAt (ops : List Oper) (i : Nat) (p : Op → Bool) : Bool := match ops[i]? with
 | some o => p o.op
 | none => false
theorem opAt_out {ops : List Oper} {i : Nat} {p : Op → Bool} (h : opAt ops i p = true) : ∃ o, ops[i]? = some o ∧ p o.op = true := by
 unfold opAt at h
 split at h
 ·rename_i o ho; exact ⟨o, ho, h⟩
 ·cases h
def chOf (ic : Option Nat) (l : List Nat) : List Nat := match ic with
 | some c => c :: l
 | none => l
def noneIs (ic : Option Nat) (j : Nat) : Bool := match ic with
 | some c => !Nat.beq c j
 | none => true
def isPtrOp : Op → Bool
 | .move _ => true
 | .nilCheck _ => true
 | .fieldAddr _ _ _ => true
 | _ => false
theorem rolPtr_ok {P : Program} {a : Act} {w : World} {o : Oper} {vb xbk off : Nat} {d : Value} {xcs : List Value} {x : Tree} {e : Operand → Option Rl} (hp : isPtrOp o.op = true) (he : ∀ y r, e y = some r → a.eval y = r.v vb xbk d xcs x) {r : Rl} (h : rolOp P off e o.op = some r) :
  (execOp a.eval o).run P w = .ok (.value (r.v vb xbk d xcs x)) w := by
 generalize hop : o.op = op at h hp
 unfold rolOp at h
 split at h
 ·have := he _ _ h; rw [← this]; exact ro_move hop
 ·split at h
  ·rename_i hx; cases h; exact ro_nilCheck hop (he _ _ hx)
  ·cases h
 ·split at h
  ·rename_i hx
   simp only [Option.map_eq_some_iff] at h
   obtain ⟨k, hk, rfl⟩ := h
   exact ro_fieldAddr hop (he _ _ hx) hk
  ·rename_i hx
   simp only [Option.map_eq_some_iff] at h
   obtain ⟨k, hk, rfl⟩ := h
   exact ro_fieldAddr hop (he _ _ hx) hk
  ·cases h
 ·cases hp
 ·cases hp
 ·cases h
def rowBodyR (P : Program) (K : Fk) (fl : Bool) (N : Nat) (S : List Nat) (vs xb off : Nat) (of : Int) (sub : List Fld) (tE sz : Nat) (ops : List Oper) : Bool :=
 match actAt ops isSlice1, actAt ops isApp with
 | some isl, some iap =>
  let ist := ops.length - 1
  let ic := actAt ops isCall1
  let r := fun i => rolAt P fl ops vs xb off 30 i
  regOk fl N S ops && (chOf ic [isl, iap, ist]).all (fun c => Nat.blt c ops.length) && (List.range ops.length).all (fun i => (chOf ic [isl, iap, ist]).contains i || (r i).isSome) && (List.range ops.length).all (fun i => Nat.beq i ist || (prs fl ops ist).contains i || opAt ops i isPtrOp) &&
   !Nat.beq isl iap && !Nat.beq isl ist && !Nat.beq iap ist && noneIs ic isl && noneIs ic iap && noneIs ic ist && (chOf ic [isl, iap, ist]).all (fun c => (r c).isNone) &&
   opAt ops isl (sliceOk P fl ops (opR fl ops vs xb r isl) of tE sz isl ic) && opAt ops iap (appOk P fl ops (opR fl ops vs xb r iap) tE sz iap isl) && opAt ops ist (stOk P fl ops (opR fl ops vs xb r ist) off ist iap) &&
   (match ic with | some c => opAt ops c (callOk P K (opR fl ops vs xb r c) of sub) | none => !decide (of = 10))
 | _, _ => false
section
variable {P : Program} {K : Fk} {tg : Bool}
theorem valOf_ok {of : Int} {r : Rl} (h : valOf of r = true) {vb xbk : Nat} {d : Value} {xcs : List Value} {x : Tree} {ok' : Nat → Prop} {w : World} (hx : Rep ok' w (treeD x) xcs) (hn : IntKind.i64.wrap x.n = x.n) (ok : Nat → Prop) :
  ∃ v, r.v vb xbk d xcs x = v ∧ v.cells = #[v] ∧ v.oneCell' = true ∧ Rep ok w (valK of (-1) x) [v] := by
 unfold valOf at h
 split at h
 ·rename_i k
  simp only [Bool.and_eq_true, decide_eq_true_eq, Bool.or_eq_true] at h
  obtain ⟨rfl, h⟩ := h
  rcases h with (((rfl | rfl) | rfl) | rfl) | rfl
  ·exact ⟨_, rfl, rfl, rfl, by simp [valK, Rep, Rl.v, litV]⟩
  ·exact ⟨_, rfl, rfl, rfl, by simp [valK, Rep, Rl.v, litV]⟩
  ·exact ⟨_, rfl, rfl, rfl, by simp [valK, Rep, Rl.v, litV]⟩
  ·exact ⟨_, rfl, rfl, rfl, by simp [valK, Rep, Rl.v, litV]⟩
  ·exact ⟨_, rfl, rfl, rfl, by simp [valK, Rep, Rl.v, litV]⟩
 ·simp only [Bool.and_eq_true, Bool.not_eq_true', decide_eq_false_iff_not] at h
  obtain ⟨⟨⟨⟨⟨⟨⟨⟨k0, k1⟩, k2⟩, k3⟩, k5⟩, k7⟩, k8⟩, k9⟩, k10⟩ := h
  obtain ⟨sv, lv, uv, rfl, _⟩ := tree_cellsG hx
  refine ⟨.int .i64 x.n, rfl, rfl, rfl, ?_⟩
  simp [valK, k0, k1, k2, k3, k5, k7, k8, k9, hn, Rep]
 ·cases h
theorem rowBody_ok (hK : FkOk P K tg) (hm : P.follows .mixedOrders = true) {fl : Bool} {N rid : Nat} {L : Sl} {ops : List Oper} {Q : Exit → Act → World → Prop} {vs xb off tE sz vb xbk lo B : Nat} {of : Int} {sub : List Fld} {e tX : TypeId} (h : rowBodyR P K fl N (L.map (·.1)) vs xb off of sub tE sz ops = true)
  (hvs : lk L vs = some (.pointer (some ⟨vb, 0, none⟩))) (hxb : lk L xb = some (.pointer (some ⟨xbk, 0, none⟩))) (hsz : (shE tg of sub).length = sz) (hs1 : 0 < sz) (hs2 : sz ≤ 1000)
  {w : World} {cells xcs : List Value} {d : Value} {els : List D} {x : Tree} (hst : Box w vb cells e) (hrow : cells[off]? = some d) (hX : Box w xbk xcs tX) (hrep : Rep (Lo B) w (treeD x) xcs) (hne : xbk ≠ vb) (hdx : d.ownBlock ≠ some xbk)
  (hrd : RowD B lo vb tE sz w d els) (hlen : els.length + 1 ≤ many) (hBv : B ≤ vb) (hvl : vb < lo) (hlo : lo ≤ w.heap.size) (hg : of = 10 → GiveP tg sub x) (hn : of ≠ 10 → IntKind.i64.wrap x.n = x.n)
  (hq : ∀ w' d', Box w' vb (cells.set off d') e → RowD B lo vb tE sz w' d' (els ++ [elK tg of sub x]) → (∃ g, d'.ownBlock = some g) → Chg (fun j => j = vb ∨ lo ≤ j) w w' → QK .normal Q N L w') : WC (.region rid ops.toArray fl) P Q N L w := by
 unfold rowBodyR at h
 split at h
 ·rename_i isl iap hisl hiap
  simp only [Bool.and_eq_true, Bool.not_eq_true'] at h
  obtain ⟨⟨⟨⟨⟨⟨⟨⟨⟨⟨⟨⟨⟨⟨g1, g2⟩, g3⟩, g4⟩, g5⟩, g6⟩, g7⟩, g8⟩, g9⟩, g10⟩, g11⟩, g12⟩, g13⟩, g14⟩, g15⟩ := h
  generalize hic : actAt ops isCall1 = ic at *
  obtain ⟨ist, hist⟩ : ∃ ist, ist = ops.length - 1 := ⟨_, rfl⟩
  rw [← hist] at g2 g3 g4 g6 g7 g10 g11 g14
  obtain ⟨r, hr⟩ : ∃ r : Nat → Option Rl, r = fun i => rolAt P fl ops vs xb off 30 i := ⟨_, rfl⟩
  have hmono : ∀ i rr, rolAt P fl ops vs xb off 29 i = some rr → r i = some rr := fun i rr hh => by rw [hr]; exact rolAt_mono 29 i rr hh
  have n1 := nb_ne g5
  have n2 := nb_ne g6
  have n3 := nb_ne g7
  have hcs : (∀ c, ic = some c → c ≠ isl ∧ c ≠ iap ∧ c ≠ ist) := by
   rintro c rfl
   simp only [noneIs, Bool.not_eq_true'] at g8 g9 g10
   exact ⟨nb_ne g8, nb_ne g9, nb_ne g10⟩
  obtain ⟨osl, ho1, hosl⟩ := opAt_out g12
  obtain ⟨oap, ho2, hoap⟩ := opAt_out g13
  obtain ⟨ost, ho3, host⟩ := opAt_out g14
  have lt_of : ∀ {i : Nat} {o : Oper}, ops[i]? = some o → i < ops.length := fun h => (List.getElem?_eq_some_iff.1 h).1
  have hall : ∀ i, i < ops.length → i ≠ ist → i ∈ prs fl ops ist ∨ opAt ops i isPtrOp = true := by
   intro i hi hne
   have := List.all_eq_true.1 g4 i (List.mem_range.2 hi)
   rw [Bool.or_eq_true, Bool.or_eq_true] at this
   rcases this with (h | h) | h
   ·exact absurd (beq_out h) hne
   ·exact .inl (by simpa using h)
   ·exact .inr h
  have hread : ∀ i, i < ops.length → i ∉ chOf ic [isl, iap, ist] → ∃ rr, r i = some rr := by
   intro i hi hni
   have := List.all_eq_true.1 g3 i (List.mem_range.2 hi)
   rw [Bool.or_eq_true] at this
   rcases this with h | h
   ·exact absurd (by simpa using h) hni
   ·rw [hr]; exact Option.isSome_iff_exists.1 h
  have hnr : ∀ i ∈ chOf ic [isl, iap, ist], r i = none := by
   intro i hi
   have := List.all_eq_true.1 g11 i hi
   rw [hr]; simpa using this
  let VS : World → Value → Prop := fun w' v => ∃ cs : List Value, v.cells = cs.toArray ∧ cs.length = sz ∧ (cs.all fun v => v.oneCell') = true ∧ Rep (Off B lo vb d w') w' (elK tg of sub x) cs
  let BS : World → Value → Prop := fun w' v => ∃ (b8 : Nat) (cs : List Value), v = .slice (some ⟨b8, 0, none⟩) 1 1 ∧ Box w' b8 cs tE ∧ cs.length = sz ∧ (cs.all fun v => v.oneCell') = true ∧ Rep (Off B lo vb d w') w' (elK tg of sub x) cs
  let AS : World → Value → Prop := fun w' v => Box w' vb cells e ∧ RowD B lo vb tE sz w' v (els ++ [elK tg of sub x]) ∧ (∃ g, v.ownBlock = some g) ∧ Chg (fun j => j = vb ∨ lo ≤ j) w w' ∧ Box w' xbk xcs tX ∧ Rep (Lo B) w' (treeD x) xcs
  let DS : World → Value → Prop := fun w' v => Box w' vb (cells.set off v) e ∧ RowD B lo vb tE sz w' v (els ++ [elK tg of sub x]) ∧ (∃ g, v.ownBlock = some g) ∧ Chg (fun j => j = vb ∨ lo ≤ j) w w'
  let FU : List (Nat × Value) → Prop := fun pc => (∀ j v, (j, v) ∈ pc → ic = some j) ∧ (∀ c, ic = some c → ∃ v, (c, v) ∈ pc)
  let C : List (Nat × Value) → World → Prop := fun dn w' =>
   (dn = [] ∧ Chg (fun _ => False) w w') ∨ (∃ c v, ic = some c ∧ dn = [(c, v)] ∧ Chg (fun _ => False) w w' ∧ VS w' v) ∨ (∃ pc v, dn = (isl, v) :: pc ∧ FU pc ∧ Chg (fun _ => False) w w' ∧ BS w' v) ∨
   (∃ pc s v, dn = (iap, v) :: (isl, s) :: pc ∧ FU pc ∧ AS w' v) ∨ (∃ pc s v u, dn = (ist, u) :: (iap, v) :: (isl, s) :: pc ∧ FU pc ∧ DS w' v)
  have nf : ∀ {w' : World}, Chg (fun _ => False) w w' → ∀ j : Nat, (fun _ => False) j → B ≤ j := fun _ j h => h.elim
  have xlt := hX.lt
  have hW : ∀ {w' : World}, Chg (fun _ => False) w w' → RlW vb xbk off d xcs x e tX cells w' := fun hc => ⟨hst.chg hc id, hrow, hX.chg hc id, _, Lo.upS hrep hc (by omega) (nf hc)⟩
  have eW : ∀ {dn : List (Nat × Value)} {w' : World}, C dn w' → (∀ u, (ist, u) ∉ dn) → RlW vb xbk off d xcs x e tX cells w' := by
   intro dn w' hC hnd
   rcases hC with ⟨_, hc⟩ | ⟨c, v, _, _, hc, _⟩ | ⟨pc, v, _, _, hc, _⟩ | ⟨pc, s, v, _, _, ha⟩ | ⟨pc, s, v, u, rfl, _, _⟩
   ·exact hW hc
   ·exact hW hc
   ·exact hW hc
   ·exact ⟨ha.1, hrow, ha.2.2.2.2.1, _, ha.2.2.2.2.2⟩
   ·exact absurd (by simp) (hnd u)
  have rdEv : ∀ {i : Nat} {a : Act}, Kn N a L → (∀ j ∈ prs fl ops i, j ∉ chOf ic [isl, iap, ist] → ∀ dd, dstOf ops j = some dd → gt a dd = (match r j with | some q => q.v vb xbk d xcs x | none => undef)) → ∀ y rr, opR fl ops vs xb r i y = some rr → a.eval y = rr.v vb xbk d xcs x := by
   intro i a k hf y rr hy
   refine opR_ok k hvs hxb (fun j hj dd hdd q hq => ?_) y rr hy
   by_cases hjc : j ∈ chOf ic [isl, iap, ist]
   ·rw [hnr j hjc] at hq; cases hq
   ·have := hf j hj hjc dd hdd
    rw [hq] at this; exact this
  refine wc_reg (fl := fl) (chOf ic [isl, iap, ist]) (fun i => match r i with | some q => q.v vb xbk d xcs x | none => undef) C g1 hm g2 (.inl ⟨rfl, Chg.refl _ _⟩) (.inl ⟨rfl, chg_drew _ _⟩) ?_ ?_ ?_
  ·intro i o ho hni dn w' hC hnd a k hf
   have hil := lt_of ho
   obtain ⟨rr, hrr⟩ := hread i hil hni
   have hne : i ≠ ist := by
    rintro rfl
    exact hni (by unfold chOf; split <;> simp)
   simp only [hrr]
   have hrr2 := hrr
   rw [hr] at hrr2
   simp only at hrr2
   unfold rolAt at hrr2
   rw [ho] at hrr2
   simp only at hrr2
   rcases hall i hil hne with hpr | hpp
   rotate_left
   ·obtain ⟨o2, ho2, hp2⟩ := opAt_out hpp
    rw [ho] at ho2; cases ho2
    refine rolPtr_ok hp2 (e := opR fl ops vs xb (rolAt P fl ops vs xb off 29) i) (fun y q hy => ?_) hrr2
    exact rdEv k hf y q (opR_mono hmono y q hy)
   refine rolOp_ok (eW hC (fun u hu => hnd ist u hu hpr)) (e := opR fl ops vs xb (rolAt P fl ops vs xb off 29) i) (fun y q hy => ?_) hrr2
   exact rdEv k hf y q (opR_mono hmono y q hy)
  ·intro i o ho hi dn w' hC hnew hpre a k hf hdn
   have hil := lt_of ho
   have ev := rdEv k hf
   by_cases hsl : i = isl
   ·subst hsl
    rw [ho1] at ho; cases ho
    have stage : (∃ v, VS w' v ∧ Chg (fun _ => False) w w' ∧ FU dn ∧ ∀ y, (∃ t, osl.op = .buildSlice t 1 #[(0, y)]) → a.eval y = v) := by
     unfold sliceOk at hosl
     split at hosl
     ·rename_i t y hop
      rw [Bool.and_eq_true] at hosl
      cases hicc : ic with
      | some c =>
       rw [hicc] at hosl
       obtain ⟨s, rfl, hs2', hs3⟩ := actRef_out hosl.2
       obtain ⟨v, hv⟩ := hpre c hs3 (by rw [hicc]; simp [chOf])
       have hvv := hdn c v s hv hs2'
       obtain ⟨c1, c2, c3⟩ := hcs c hicc
       rcases hC with ⟨rfl, hc⟩ | ⟨c', v', hc', rfl, hc, hvs'⟩ | ⟨pc, v', rfl, _⟩ | ⟨pc, s', v', rfl, _⟩ | ⟨pc, s', v', u, rfl, _⟩
       ·cases hv
       ·simp only [List.mem_singleton, Prod.mk.injEq] at hv
        obtain ⟨rfl, rfl⟩ := hv
        refine ⟨v, hvs', hc, ⟨fun j u hj => ?_, fun c2 h2 => ?_⟩, ?_⟩
        ·simp only [List.mem_singleton, Prod.mk.injEq] at hj; rw [hj.1]; exact hc'
        ·rw [hc'] at h2; cases h2; exact ⟨v, by simp⟩
        ·rintro y ⟨t', hy⟩
         rw [hop] at hy
         simp only [Op.buildSlice.injEq, Array.mk.injEq, List.cons.injEq, Prod.mk.injEq, true_and, and_true] at hy
         rw [← hy.2]
         exact hvv
       ·exact absurd (by simp) (hnew v')
       ·exact absurd (by simp) (hnew s')
       ·exact absurd (by simp) (hnew s')
      | none =>
       rw [hicc] at hosl
       simp only at hosl
       cases hy : opR fl ops vs xb (fun i => rolAt P fl ops vs xb off 30 i) i y with
       | none => rw [hy] at hosl; cases hosl.2
       | some rr =>
        rw [hy] at hosl
        have hy' : opR fl ops vs xb r i y = some rr := by rw [hr]; exact hy
        have hev := ev y rr hy'
        have h10 : of ≠ 10 := by
         rw [hicc] at g15
         simpa using g15
        have hc : dn = [] ∧ Chg (fun _ => False) w w' := by
         rcases hC with h | ⟨c', v', hc', _⟩ | ⟨pc, v', rfl, _⟩ | ⟨pc, s', v', rfl, _⟩ | ⟨pc, s', v', u, rfl, _⟩
         ·exact h
         ·rw [hicc] at hc'; cases hc'
         ·exact absurd (by simp) (hnew v')
         ·exact absurd (by simp) (hnew s')
         ·exact absurd (by simp) (hnew s')
        obtain ⟨rfl, hc⟩ := hc
        obtain ⟨v, hv1, hv2, hv3, hv4⟩ := valOf_ok (vb := vb) (xbk := xbk) (d := d) hosl.2 (Lo.upS hrep hc (by omega) (nf hc)) (hn h10) (Off B lo vb d w')
        refine ⟨v, ⟨[v], by rw [hv2], ?_, by simp [hv3], ?_⟩, hc, ⟨fun j u hj => (by cases hj), fun c h2 => by rw [hicc] at h2; cases h2⟩, ?_⟩
        ·have := Rep.len _ _ hv4
         rw [← hsz]
         rw [this, ← sh_width, sh_valK]
         simp [shE, h10]
        ·simp only [elK, h10, if_false]; exact hv4
        ·rintro y' ⟨t', hy2⟩
         rw [hop] at hy2
         simp only [Op.buildSlice.injEq, Array.mk.injEq, List.cons.injEq, Prod.mk.injEq, true_and, and_true] at hy2
         rw [← hy2.2, hev, hv1]
     ·cases hosl
    obtain ⟨v, ⟨cs, q1, q2, q3, q4⟩, hc, hfu, hev⟩ := stage
    unfold sliceOk at hosl
    split at hosl
    ·rename_i t y hop
     rw [Bool.and_eq_true] at hosl
     have hy := hev y ⟨t, hop⟩
     have hga := grown_alloc w' (.cells cs.toArray tE)
     cases osl with
     | mk dst op ty pos aft gg =>
     simp only at hop
     subst hop
     refine does_of (v := .slice (some ⟨w'.heap.size, 0, none⟩) 1 1) (w' := w'.alloc (.cells cs.toArray tE)) ?_ ?_
     ·simp only [execOp, Sem.run_bind]
      have : Array.map (fun x => (x.1, a.eval x.2)) #[(0, y)] = #[(0, v)] := by simp [hy]
      rw [this, run_slice1 hosl.1 q1 q2 (by simp only [Bool.and_eq_true]; exact ⟨Nat.ble_eq_true_of_le hs1, Nat.ble_eq_true_of_le hs2⟩)]
      simp
     ·have hc2 : Chg (fun _ => False) w' (w'.alloc (.cells cs.toArray tE)) := Chg.grown0 hga
      refine .inr (.inr (.inl ⟨dn, _, rfl, hfu, hc.trans hc2, w'.heap.size, cs, rfl, box_alloc _ _ _, q2, q3, ?_⟩))
      exact q4.up (fun b hb => ⟨hb.1, Nat.lt_of_lt_of_le hb.2.1 hc2.size, hb.2.2⟩) (fun b hb => hc2.block b hb.2.1 id)
    ·cases hosl
   by_cases hap : i = iap
   ·subst hap
    rw [ho2] at ho; cases ho
    unfold appOk at hoap
    split at hoap
    ·rename_i y z t2 t3 hop
     simp only [Bool.and_eq_true] at hoap
     obtain ⟨⟨⟨p1, p2⟩, p3⟩, p4⟩ := hoap
     have := beq_out p2; subst this
     obtain ⟨s, rfl, hs2', hs3⟩ := actRef_out p4
     obtain ⟨v, hv⟩ := hpre isl hs3 (by unfold chOf; split <;> simp)
     have hvv : gt a s = v := hdn isl v s hv hs2'
     have hyd : a.eval y = d := by
      unfold isRow at p3
      split at p3
      ·rename_i hy
       exact ev y .row (by rw [hr]; exact hy)
      ·cases p3
     have stage : ∃ pc, dn = (isl, v) :: pc ∧ FU pc ∧ Chg (fun _ => False) w w' ∧ BS w' v := by
      rcases hC with ⟨rfl, hc⟩ | ⟨c', v', hc', rfl, hc, hvs'⟩ | ⟨pc, v', rfl, hfu, hc, hb⟩ | ⟨pc, s', v', rfl, _⟩ | ⟨pc, s', v', u, rfl, _⟩
      ·cases hv
      ·simp only [List.mem_singleton, Prod.mk.injEq] at hv
       exact absurd hv.1.symm (hcs c' hc').1
      ·have : v = v' := by
        rcases List.mem_cons.1 hv with h | h
        ·cases h; rfl
        ·exact absurd (rfl : isl = isl) (hcs isl (hfu.1 _ _ h)).1
       subst this
       exact ⟨pc, rfl, hfu, hc, hb⟩
      ·exact absurd (by simp) (hnew v')
      ·exact absurd (by simp) (hnew v')
     obtain ⟨pc, rfl, hfu, hc, b8, cs, rfl, hb8, q2, q3, q4⟩ := stage
     have hrd' := hrd.below (w' := w') ⟨hc.os, hc.tape, hc.output, hc.size, fun j hj => hc.block j hj id⟩
     obtain ⟨xs0, hrow0, hreps0⟩ := hrd'.row
     cases oap with
     | mk dst op ty pos aft gg =>
     simp only at hop
     subst hop
     have kk : Kn N a [(s, .slice (some ⟨b8, 0, none⟩) 1 1)] := ⟨k.size, k.defers, fun t u e => by
      simp only [lk] at e
      cases hb : Nat.beq s t with
      | true => rw [hb] at e; simp only [cond_true, Option.some.injEq] at e; rw [← beq_out hb, ← e]; exact hvv
      | false => rw [hb] at e; cases e⟩
     have hc1 := hc.size
     have main : Does P ⟨dst, .call ⟨.builtin .append, #[y, .tmp s], #[t2, t2]⟩, ty, pos, aft, gg⟩ a w' fun v w'' => C ((i, v) :: (isl, .slice (some ⟨b8, 0, none⟩) 1 1) :: pc) w'' := by
      obtain ⟨hu, ii, zz, hi', hs1', hb1', hz', hzc'⟩ := rowTy_out p1
      have h1' : ∀ v ∈ cs, v.oneCell' = true := fun v hv => List.all_eq_true.1 q3 v hv
      obtain ⟨d', w'', hrun, ho', hgr⟩ := run_app (P := P) w' lo t2 t2 ty tE ii zz (.slice tE) hu hu (.inl ⟨tE, rfl⟩) hi' hz' (by rw [hzc', hs1']) d els.length xs0 (by rw [hs1']; exact hrow0)
       (.slice (some ⟨b8, 0, none⟩) 1 1) 1 cs (by rw [q2, hs1', Nat.one_mul]) h1' (fun w' => by simp [Builtin.lenOf])
       (fun w3 hw3 => by
        refine run_firstCells_some (P := P) w3 ii.size 1 _ _ _ cs (by rw [q2, hs1', Nat.one_mul]) (fun j v hv => ?_)
        have h1 := hb8.cell hv
        rw [add_plain _ _ rfl]
        simp only [Nat.zero_add]
        rcases hw3 with rfl | rfl
        ·exact h1
        ·exact h1)
       (by have := Nat.mul_le_mul hlen hb1'; simp only [many, lim] at *; omega) (by simp only [maxLen, many] at *; omega) (by omega)
      refine does_of (v := d') (w' := w'') ?_ ?_
      ·simp only [execOp, resolve, List.map_toArray, List.map_cons, List.map_nil, hyd, eval_tmp, hvv, Sem.run_bind, Sem.run_pure, Result.andThen_ok, invoke, builtin, hrun]
      ·rw [hs1'] at ho'
       have hsn := hrd'.snoc (by omega) (by have := hst.lt; omega) hreps0 q4 ho' hgr
       have hcg : Chg (fun j => j = vb ∨ lo ≤ j) w w'' := by
        refine (hc.wide (fun j h => h.elim)).trans ⟨hgr.grown.os, hgr.grown.tape, hgr.grown.output, hgr.grown.size, fun j hj hnj => hgr.grown.block j hj (fun e => ?_)⟩
        have := hrd'.low j e.symm
        exact hnj (.inr this.1)
       have hgb : ∀ j, some j ≠ d.ownBlock → j < w'.heap.size → w''.heap[j]? = w'.heap[j]? := fun j hne hj => hgr.grown.block j hj hne
       refine .inr (.inr (.inr (.inl ⟨pc, _, d', rfl, hfu, ?_, hsn, ?_, hcg, ?_, ?_⟩)))
       ·exact (hst.chg hc id).kept hgr.grown (fun e => hrd.apart e.symm)
       ·obtain ⟨xs1, hrow1, _⟩ := hsn.row
        obtain ⟨g, cap, hd, _, _, _⟩ := Row.cells hrow1 (by simp)
        exact ⟨g, by rw [hd]; rfl⟩
       ·exact (hX.chg hc id).kept hgr.grown (fun e => hdx e.symm)
       ·have h0 := Lo.upS hrep hc (by omega) (nf hc)
        refine Rep.mono (fun b hb => ⟨hb, hgb b (fun e => ?_) (by have hb3 : b < B := hb; omega)⟩) _ _ h0
        have := hrd'.low b e.symm
        have hb3 : b < B := hb
        omega
     exact main
    ·cases hoap
   by_cases hstt : i = ist
   ·subst hstt
    rw [ho3] at ho; cases ho
    unfold stOk at host
    split at host
    ·rename_i tt p y hop
     simp only [Bool.and_eq_true] at host
     obtain ⟨⟨p1, p2⟩, p3⟩ := host
     obtain ⟨s, rfl, hs2', hs3⟩ := actRef_out p3
     obtain ⟨v, hv⟩ := hpre iap hs3 (by unfold chOf; split <;> simp)
     have hvv : gt a s = v := hdn iap v s hv hs2'
     have hpd : a.eval p = .pointer (some ⟨vb, off, none⟩) := by
      unfold isVp at p2
      split at p2
      ·rename_i o' hy
       have := beq_out p2; subst this
       exact ev p (.vp o') (by rw [hr]; exact hy)
      ·cases p2
     have stage : ∃ pc s', dn = (iap, v) :: (isl, s') :: pc ∧ FU pc ∧ AS w' v := by
      rcases hC with ⟨rfl, hc⟩ | ⟨c', v', hc', rfl, hc, hvs'⟩ | ⟨pc, v', rfl, hfu, hc, hb⟩ | ⟨pc, s', v', rfl, hfu, ha⟩ | ⟨pc, s', v', u, rfl, _⟩
      ·cases hv
      ·simp only [List.mem_singleton, Prod.mk.injEq] at hv
       exact absurd hv.1.symm (hcs c' hc').2.1
      ·rcases List.mem_cons.1 hv with h | h
       ·cases h; exact absurd rfl n1
       ·exact absurd rfl (hcs iap (hfu.1 _ _ h)).2.1
      ·have : v = v' := by
        rcases List.mem_cons.1 hv with h | h
        ·cases h; rfl
        ·rcases List.mem_cons.1 h with h | h
         ·cases h; exact absurd rfl n1
         ·exact absurd rfl (hcs iap (hfu.1 _ _ h)).2.1
       subst this
       exact ⟨pc, s', rfl, hfu, ha⟩
      ·exact absurd (by simp) (hnew u)
     obtain ⟨pc, s', rfl, hfu, a1, a2, a3, a4, a5, a6⟩ := stage
     cases ost with
     | mk dst op ty pos aft gg =>
     simp only at hop
     subst hop
     have h1v : v.oneCell' = true := by
      obtain ⟨b1, c1, rfl⟩ := a2.shape; rfl
     have hcs1 : v.cells = #[v] := by obtain ⟨b1, c1, rfl⟩ := a2.shape; rfl
     have hbs := box_set a1 off v
     refine does_skip (w' := w'.setCell ⟨vb, off, none⟩ v) ?_ ?_
     ·have hst' := run_store P w' ⟨vb, off, none⟩ v .plain h1v
      rw [a1.cell hrow] at hst'
      simp only [a1.frozen off, Bool.false_eq_true, if_false] at hst'
      have ha0 : (⟨vb, off, none⟩ : Addr).add 0 = ⟨vb, off, none⟩ := by simp [Addr.add]
      simp [execOp, hpd, eval_tmp, hvv, Instr.storeAt, Instr.sureAddr, storeVar, hcs1, run_sizeOf_one p1, storeCells, ha0, hst']
     ·have hc2 : Chg (· = vb) w' (w'.setCell ⟨vb, off, none⟩ v) := Chg.grown hbs.2
      exact .inr (.inr (.inr (.inr ⟨pc, s', v, undef, rfl, hfu, hbs.1, a2.stored hbs.2, a3, a4.trans (hc2.wide (fun j hj => .inl hj))⟩)))
    ·cases host
   ·-- the call
    cases hicc : ic with
    | none =>
     rw [hicc] at hi
     simp only [chOf, List.mem_cons, List.not_mem_nil, or_false] at hi
     rcases hi with h | h | h
     ·exact absurd h hsl
     ·exact absurd h hap
     ·exact absurd h hstt
    | some c =>
     have hic2 : i = c := by
      rw [hicc] at hi
      simp only [chOf, List.mem_cons, List.not_mem_nil, or_false] at hi
      rcases hi with h | h | h | h
      ·exact h
      ·exact absurd h hsl
      ·exact absurd h hap
      ·exact absurd h hstt
     subst hic2
     rw [hicc] at g15
     obtain ⟨oc, ho4, hoc⟩ := opAt_out g15
     rw [ho4] at ho; cases ho
     have stage : dn = [] ∧ Chg (fun _ => False) w w' := by
      rcases hC with h | ⟨c', v', hc', rfl, hc, hvs'⟩ | ⟨pc, v', rfl, hfu, _⟩ | ⟨pc, s', v', rfl, hfu, _⟩ | ⟨pc, s', v', u, rfl, hfu, _⟩
      ·exact h
      ·rw [hicc] at hc'; cases hc'; exact absurd (by simp) (hnew v')
      ·obtain ⟨v2, h2⟩ := hfu.2 i hicc; exact absurd (by simp [h2]) (hnew v2)
      ·obtain ⟨v2, h2⟩ := hfu.2 i hicc; exact absurd (by simp [h2]) (hnew v2)
      ·obtain ⟨v2, h2⟩ := hfu.2 i hicc; exact absurd (by simp [h2]) (hnew v2)
     obtain ⟨rfl, hc⟩ := stage
     unfold callOk at hoc
     split at hoc
     ·rename_i f y ats hop
      simp only [Bool.and_eq_true, decide_eq_true_eq] at hoc
      obtain ⟨⟨p1, p2⟩, p3⟩ := hoc
      split at p3
      ·rename_i fs hfs
       have := fldsEq_out _ _ p3; subst this
       have hyd : a.eval y = .agg xcs.toArray := by
        unfold isXw at p1
        split at p1
        ·rename_i hy
         exact ev y .xw (by rw [hr]; exact hy)
        ·cases p1
       have hcv := hK.mks f fs hfs
       have hrep' := Lo.upS hrep hc (by omega) (nf hc)
       have hc1 := hc.size
       refine do_call hop (vs := #[.agg xcs.toArray]) (by simp only [List.map_toArray, List.map_cons, List.map_nil, hyd]) hcv.1 ((hcv.2 B w' x xcs (hg p2) hrep' (by omega)).mono ?_)
       rintro en w'' ⟨v, vs', rfl, hv1, hv2, hv3, hv4⟩
       refine ⟨v, rfl, .inr (.inl ⟨i, v, hicc, rfl, hc.trans hv4, vs', hv1, ?_, hv3, ?_⟩)⟩
       ·rw [Reps.len _ _ hv2, ← hsz]
        simp only [shE, p2, if_true, shP, List.length_append, partK, widths_append, width_partsK]
        congr 1
        cases tg <;> simp [tagsK, D.width, D.widths]
       ·simp only [elK, p2, if_true]
        show Rep _ w'' (.agg (partK tg fs x)) vs'
        simp only [Rep]
        refine hv2.up (fun b hb => ?_) (fun _ _ => rfl)
        have hrlow := hrd.low
        obtain ⟨hb, hb2⟩ := hb
        refine ⟨by omega, hb2, by omega, fun e => ?_⟩
        have := hrlow b e
        omega
      ·cases p3
     ·cases hoc
  ·intro dn w' hC hall' a k hf hdn
   obtain ⟨u, hu⟩ := hall' ist (by unfold chOf; split <;> simp)
   rcases hC with ⟨rfl, hc⟩ | ⟨c', v', hc', rfl, hc, hvs'⟩ | ⟨pc, v', rfl, hfu, _⟩ | ⟨pc, s', v', rfl, hfu, _⟩ | ⟨pc, s', v', u, rfl, hfu, hd⟩
   ·cases hu
   ·simp only [List.mem_singleton, Prod.mk.injEq] at hu
    exact absurd hu.1.symm (hcs c' hc').2.2
   ·rcases List.mem_cons.1 hu with h | h
    ·cases h; exact absurd rfl n2
    ·exact absurd rfl (hcs ist (hfu.1 _ _ h)).2.2
   ·rcases List.mem_cons.1 hu with h | h
    ·cases h; exact absurd rfl n3
    ·rcases List.mem_cons.1 h with h | h
     ·cases h; exact absurd rfl n2
     ·exact absurd rfl (hcs ist (hfu.1 _ _ h)).2.2
   ·exact hq w' v' hd.1 hd.2.1 hd.2.2.1 hd.2.2.2 a k
 ·cases h
end
end Go.Proofs.YtgpnpfiafcakfaaGreat
