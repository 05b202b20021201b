/- A part of the proof of FnUnsafeGroupMetadataValueCardSaid: what its texts prove stands at the head of each. Conditions: those that each theorem names. -/
import Derived.Test.YtlmnaffhadeolaaGreatDoorPartE
import Derived.Test.YtlmnaffhadeolaaGreatDoorPartC
import Derived.Carry
import Derived.Test.YtlmnaffhadeolaaGreatDoorProg
import Derived.Test.YtlmnaffhadeolaaGreatDoorPartB
import Derived.Test.YtlmnaffhadeolaaGreatDoorPartD
import Derived.Deep.QuietTactic
import Derived.Sort.LotA
import Derived.Test.YtlmnaffhadeolaaGreatDoorPartA
set_option linter.all false
namespace Go.Proofs.YtlmnaffhadeolaaGreatDoor.Rdk
open Go Go.RowKit
set_option maxRecDepth 100000
theorem wl_build0 {P : Program} {ops : Array Oper} {Q : Exit → Act → World → Prop} {N : Nat} {rest : List Oper} {L : Sl} {w : World} {d : Nat} {ty : TypeId} {pos : String} {aft : Array Edge} {t : TypeId} (ht : (elemSize P t).isSome = true) (hd : Nat.blt d N = true)
  (h : ∀ w', Chg (fun _ => False) w w' → CellsAt w' w.heap.size 0 [] → WL rest P ops Q N ((d, .slice (some ⟨w.heap.size, 0, none⟩) 0 0) :: L) w') : WL (⟨some d, .buildSlice t 0 #[], ty, pos, aft, none⟩ :: rest) P ops Q N L w := by
 intro a k
 unfold elemSize at ht
 split at ht
 ·rename_i e he
  cases hi : P.info? e with
  | none => rw [hi] at ht; simp at ht
  | some inf =>
   have hrun : (execOp a.eval ⟨some d, .buildSlice t 0 #[], ty, pos, aft, none⟩).run P w = .ok (.value (.slice (some ⟨w.heap.size, 0, none⟩) 0 0)) (w.alloc (.cells #[] e)) := by
    simp [execOp, Instr.buildSlice, run_underlying he, sizeOf, typeInfo, hi, newRow, Instr.fill]
    rw [show Array.range 0 = #[] from rfl, Array.map_empty]
   exact st_of (o := ⟨some d, .buildSlice t 0 #[], ty, pos, aft, none⟩) rfl hrun (h _ (chg_alloc w _ _) (box_alloc w [] e).cells _ (k.put _ hd))
 ·cases ht
theorem oct_rel {c b : Bool} {st st2 : Option (List UInt8)} {m : Int} {st1 : Option (List UInt8)} {s1 : List UInt8} (h0 : CntRel c .i32 4 st m st1) (hn : m ≠ -1) (h : TxtRel c .i32 4 st s1 st2) (hb : st2.isSome = true → b = false) : RdRel (if c then .cbytes else .bytes) st [D.sl b (s1.map byteD)] st2 := by
 refine ⟨by cases c <;> rfl, fun d hd => by simp at hd; subst hd; rfl, ?_⟩
 unfold TxtRel at h
 cases st with
 | none => exact h
 | some s =>
  simp only [CntRel] at h0
  simp only [] at h ⊢
  cases c
  ·simp only [cntP, Bool.false_eq_true, if_false, rdP] at h0 h ⊢
   cases hx : intP .i32 4 s with
   | none => rw [hx] at h; exact h
   | some x =>
    rw [hx] at h h0
    obtain ⟨rfl, rfl⟩ := h0
    simp only [Option.bind_some] at h ⊢
    rw [if_neg hn]
    cases hy : spanP x.1 x.2 with
    | none => rw [hy] at h; exact h
    | some y => rw [hy] at h; obtain ⟨rfl, rfl⟩ := h; rw [hb rfl]; exact ⟨rfl, rfl⟩
  ·simp only [cntP, if_true, rdP] at h0 h ⊢
   cases hx : uvarP s with
   | none => rw [hx] at h; exact h
   | some x =>
    rw [hx] at h h0
    obtain ⟨rfl, rfl⟩ := h0
    simp only [Option.map_some, Option.bind_some] at h ⊢
    rw [if_neg hn]
    cases hy : spanP ((x.1 : Int) - 1) x.2 with
    | none => rw [hy] at h; exact h
    | some y => rw [hy] at h; obtain ⟨rfl, rfl⟩ := h; rw [hb rfl]; exact ⟨rfl, rfl⟩
theorem oct_nul {c : Bool} {st st1 : Option (List UInt8)} {m : Int} (h : CntRel c .i32 4 st m st1) (hn : m = -1) : RdRel (if c then .cbytes else .bytes) st [D.sl false []] st1 := by
 refine ⟨by cases c <;> rfl, fun d hd => by simp at hd; subst hd; rfl, ?_⟩
 cases st with
 | none => exact h
 | some s =>
  simp only [CntRel] at h ⊢
  cases c
  ·simp only [cntP, Bool.false_eq_true, if_false, rdP] at h ⊢
   cases hx : intP .i32 4 s with
   | none => rw [hx] at h; exact h
   | some x =>
    rw [hx] at h
    obtain ⟨rfl, rfl⟩ := h
    simp only [Option.bind_some]
    rw [if_pos hn]
    exact ⟨rfl, rfl⟩
  ·simp only [cntP, if_true, rdP] at h ⊢
   cases hx : uvarP s with
   | none => rw [hx] at h; exact h
   | some x =>
    rw [hx] at h
    obtain ⟨rfl, rfl⟩ := h
    simp only [Option.bind_some]
    rw [if_pos hn]
    exact ⟨rfl, rfl⟩
theorem srcv_sl {w : World} {sb lo : Nat} {v : Value} {s : List UInt8} (h : SrcV w sb v s) (hs : sb < w.heap.size) : ∃ b : Bool, Rep (Dk sb lo w) w (.sl b (s.map byteD)) [v] ∧ (v ≠ .slice none 0 0 → b = false) := by
 rcases h with ⟨rfl, rfl⟩ | ⟨o, c, rfl, hle, hcs, _⟩
 ·exact ⟨true, ⟨none, 0, rfl, Nat.le_refl _, fun _ => ⟨rfl, rfl, rfl⟩, fun h => by cases h⟩, fun h => absurd rfl h⟩
 ·refine ⟨false, ?_, fun _ => rfl⟩
  simp only [Rep, List.length_map]
  exact ⟨_, c, rfl, hle, fun h => (by cases h), fun _ => ⟨sb, o, bv s, rfl, ⟨.inl rfl, hs⟩, hcs, (reps_bytes s _).2 rfl⟩⟩
theorem cnt_nz {c : Bool} {w : World} {rb sb : Nat} {st st1 st2 : Option (List UInt8)} {m : Int} {s1 : List UInt8} (hr : Rdr w rb sb st) (h : CntRel c .i32 4 st m st1) (h2 : SpanRel m st1 s1 st2) (hs : st2.isSome = true) : sb ≠ 0 := by
 cases st with
 | none =>
  simp only [CntRel] at h
  subst h
  simp only [SpanRel] at h2
  rw [h2] at hs; cases hs
 | some s =>
  refine hr.nz (fun e => ?_)
  subst e
  have hn : cntP c .i32 4 [] = none := by cases c <;> simp [cntP, intP, takeN, uvarP, uvarR]
  simp only [CntRel, hn] at h
  subst h
  simp only [SpanRel] at h2
  rw [h2] at hs; cases hs
theorem rd_Bytes : RdC Tryz.prog 128 .bytes := by
 intro w rb sb lo st hr h1 h2 h3 h4
 refine enter Tryz.func128 rfl Tryz.ntmps128 rfl ?_
 refine wc_seq (wc_region (wl_assign rfl rfl (wl_nil (qk_thn ?_))))
 refine wc_seq (wc_region ?_)
 refine ws rfl rfl ?_
 refine wl_call rfl (by kernel_rfl) rfl ((int_of_rd rd_Int32 .i32 4 (fun s => rfl) rfl w rb sb lo st hr h1 h2 h3 h4).mono ?_)
 rintro en w1 ⟨m, st1, rfl, hwr, hc1, hr1, hrel⟩
 refine ⟨_, rfl, ?_⟩
 refine ws rfl rfl ?_
 refine wl_nil (qk_thn ?_)
 have hs1 := hc1.size
 have hcnt : CntRel false .i32 4 st m st1 := cnt_i hrel
 have hrange : IntKind.i64.wrap m = m := by rw [IntKind.wrap_i32] at hwr; rw [IntKind.wrap_i64]; omega
 refine wc_seq (wc_seq (wc_region ?_))
 refine ws rfl rfl ?_
 refine ws rfl rfl ?_
 refine wl_nil (qk_thn ?_)
 refine wc_cond rfl (fun hc => ?_) (fun hc => ?_)
 ·refine wc_seq (wc_region ?_)
  refine wl_build0 (by kernel_rfl) rfl (fun w2 hc2 hcs2 => ?_)
  refine ws rfl rfl ?_
  refine wl_nil (qk_thn (wc_ret (qk_thn_ret (qk_ret1 rfl rfl ?_))))
  have hneg : m = -1 := by simpa using hc
  exact ⟨_, [.sl false []], st1, rfl, hc1.trans (hc2.wide (fun _ h => h.elim)), hr1.chg hc2 id id, ⟨[_], [], rfl, ⟨_, _, rfl, Nat.le_refl _, fun h => (by cases h), fun _ => ⟨_, 0, [], rfl, ⟨.inr (by have := hc1.size; omega), hcs2.lt⟩, hcs2, rfl⟩⟩, rfl⟩, rfl, fun _ => rfl, oct_nul (c := false) hcnt hneg⟩
 refine wc_skip (qk_thn ?_)
 have hnn : m ≠ -1 := by simpa using hc
 refine wc_seq (wc_region ?_)
 refine ws rfl rfl ?_
 refine ws rfl rfl ?_
 refine wl_conv .i64 rfl (by kernel_rfl) (by kernel_rfl) rfl hrange ?_
 refine wl_call rfl (by kernel_rfl) rfl ((fn_spanN w1 rb sb st1 (m) hr1 h4).mono ?_)
 rintro en w2 ⟨v, s1, st2, rfl, hc2, hr2, hsv, hlim, hspan, hnil⟩
 refine ⟨_, rfl, ?_⟩
 have hs2 := hc2.size
 refine ws rfl rfl ?_
 refine wl_nil (qk_thn (wc_ret (qk_ret1 rfl rfl ?_)))
 obtain ⟨b, hrep, hbf⟩ := srcv_sl (lo := lo) hsv (by omega)
 obtain ⟨a', n', c', rfl⟩ : ∃ a' n' c', v = .slice a' n' c' := by rcases hsv with ⟨rfl, _⟩ | ⟨o, c, rfl, _⟩ <;> exact ⟨_, _, _, rfl⟩
 exact ⟨_, [.sl b (s1.map byteD)], st2, rfl, hc1.trans hc2, hr2, ⟨[_], [], rfl, hrep, rfl⟩, rfl, fun _ => rfl, oct_rel (c := false) hcnt hnn (span_rel hcnt hspan) (fun h => hbf (hnil h (cnt_nz hr hcnt hspan h)))⟩
theorem rd_CompactBytes : RdC Tryz.prog 127 .cbytes := by
 intro w rb sb lo st hr h1 h2 h3 h4
 refine enter Tryz.func127 rfl Tryz.ntmps127 rfl ?_
 refine wc_seq (wc_region (wl_assign rfl rfl (wl_nil (qk_thn ?_))))
 refine wc_seq (wc_region ?_)
 refine ws rfl rfl ?_
 refine wl_call rfl (by kernel_rfl) rfl ((fn_ruv w rb sb st hr h4).mono ?_)
 rintro en w1 ⟨u, st1, rfl, hc1, hr1, hrel⟩
 refine ⟨_, rfl, ?_⟩
 have hul := hrel.1
 refine wl_conv .i64 (r := (u : Int)) rfl (by kernel_rfl) (by kernel_rfl) rfl (by rw [IntKind.wrap_i64]; omega) ?_
 refine wl_sub' (r := (u : Int) - 1) rfl rfl rfl (by rw [IntKind.wrap_i64]; omega) ?_
 refine ws rfl rfl ?_
 refine wl_nil (qk_thn ?_)
 have hs1 := hc1.size
 have hcnt : CntRel true .i32 4 st ((u : Int) - 1) st1 := cnt_u hrel
 refine wc_seq (wc_seq (wc_region ?_))
 refine ws rfl rfl ?_
 refine ws rfl rfl ?_
 refine wl_nil (qk_thn ?_)
 refine wc_cond rfl (fun hc => ?_) (fun hc => ?_)
 ·refine wc_seq (wc_region ?_)
  refine wl_build0 (by kernel_rfl) rfl (fun w2 hc2 hcs2 => ?_)
  refine ws rfl rfl ?_
  refine wl_nil (qk_thn (wc_ret (qk_thn_ret (qk_ret1 rfl rfl ?_))))
  have hneg : (u : Int) - 1 = -1 := by simpa using hc
  exact ⟨_, [.sl false []], st1, rfl, hc1.trans (hc2.wide (fun _ h => h.elim)), hr1.chg hc2 id id, ⟨[_], [], rfl, ⟨_, _, rfl, Nat.le_refl _, fun h => (by cases h), fun _ => ⟨_, 0, [], rfl, ⟨.inr (by have := hc1.size; omega), hcs2.lt⟩, hcs2, rfl⟩⟩, rfl⟩, rfl, fun _ => rfl, oct_nul (c := true) hcnt hneg⟩
 refine wc_skip (qk_thn ?_)
 have hnn : (u : Int) - 1 ≠ -1 := by simpa using hc
 refine wc_seq (wc_region ?_)
 refine ws rfl rfl ?_
 refine ws rfl rfl ?_
 refine wl_call rfl (by kernel_rfl) rfl ((fn_spanN w1 rb sb st1 ((u : Int) - 1) hr1 h4).mono ?_)
 rintro en w2 ⟨v, s1, st2, rfl, hc2, hr2, hsv, hlim, hspan, hnil⟩
 refine ⟨_, rfl, ?_⟩
 have hs2 := hc2.size
 refine ws rfl rfl ?_
 refine wl_nil (qk_thn (wc_ret (qk_ret1 rfl rfl ?_)))
 obtain ⟨b, hrep, hbf⟩ := srcv_sl (lo := lo) hsv (by omega)
 obtain ⟨a', n', c', rfl⟩ : ∃ a' n' c', v = .slice a' n' c' := by rcases hsv with ⟨rfl, _⟩ | ⟨o, c, rfl, _⟩ <;> exact ⟨_, _, _, rfl⟩
 exact ⟨_, [.sl b (s1.map byteD)], st2, rfl, hc1.trans hc2, hr2, ⟨[_], [], rfl, hrep, rfl⟩, rfl, fun _ => rfl, oct_rel (c := true) hcnt hnn (span_rel hcnt hspan) (fun h => hbf (hnil h (cnt_nz hr hcnt hspan h)))⟩
end Go.Proofs.YtlmnaffhadeolaaGreatDoor.Rdk

namespace Go.Proofs.YtlmnaffhadeolaaGreatDoor.Rdk
open Go Go.RowKit
set_option maxRecDepth 100000
section
variable {P : Program} {ops : Array Oper} {Q : Exit → Act → World → Prop} {N : Nat} {rest : List Oper} {L : Sl} {w : World} {d : Nat} {ty : TypeId} {pos : String} {aft : Array Edge}
theorem wl_mapNil {x : Operand} {t u : TypeId} {m : Option Nat} (hx : ev L x = some (.map m)) (ht : (match P.underlying t with | some (.map _ _) => true | _ => false) = true) (hd : Nat.blt d N = true) (h : WL rest P ops Q N ((d, .bool m.isNone) :: L) w) :
  WL (⟨some d, .binOp .eql t x (.const (.map none)) u, ty, pos, aft, none⟩ :: rest) P ops Q N L w := by
 intro a k
 split at ht
 ·rename_i kt et hu
  refine st_of (o := ⟨some d, .binOp .eql t x (.const (.map none)) u, ty, pos, aft, none⟩) (v := .bool m.isNone) (w' := w) rfl ?_ (h _ (k.put _ hd))
  simp only [execOp, k.eval hx, eval_const]
  have h : ∀ d : Nat, (Op.equalIn (d + 1) t (.map m) (.map none)).run P w = .ok m.isNone w := fun d => by
   cases m <;> simp [Op.equalIn, run_underlying hu]
  simp only [eqGuard, binOp]
  simp [Op.equal, Op.maxDepth, h 9999]
 ·cases ht
theorem wl_makeMap {t : TypeId} (hd : Nat.blt d N = true) (h : WL rest P ops Q N ((d, .map (some w.heap.size)) :: L) (w.alloc (.map #[] 0))) : WL (⟨some d, .makeMap t none, ty, pos, aft, none⟩ :: rest) P ops Q N L w := by
 intro a k
 refine st_of (o := ⟨some d, .makeMap t none, ty, pos, aft, none⟩) (v := .map (some w.heap.size)) rfl ?_ (h _ (k.put _ hd))
 simp [execOp, run_makeMap]
theorem wl_mapUpd {x y z : Operand} {t : TypeId} {m kk v : Value} {w' : World} (hx : ev L x = some m) (hy : ev L y = some kk) (hz : ev L z = some v) (hr : (Instr.mapUpdate t m kk v).run P w = .ok () w') (h : WL rest P ops Q N L w') :
  WL (⟨none, .mapUpdate t x y z, ty, pos, aft, none⟩ :: rest) P ops Q N L w := by
 intro a k
 refine st_of_skip (o := ⟨none, .mapUpdate t x y z, ty, pos, aft, none⟩) (w' := w') rfl ?_ (h _ k)
 simp [execOp, k.eval hx, k.eval hy, k.eval hz, hr]
end
def tblT : Tbl := ⟨[(63, 0, 0)], []⟩
theorem tblT_ok : tblT.ok Tryz.prog = true := by kernel_rfl
theorem wt {ops : Array Oper} {Q : Exit → Act → World → Prop} {N : Nat} {rest : List Oper} {L : Sl} {w : World} {d : Nat} {ty : TypeId} {pos : String} {aft : Array Edge} {o : Op} {v : Value}
  (hs : stepOp tblT L o = some v) (hd : Nat.blt d N = true) (h : WL rest Tryz.prog ops Q N ((d, v) :: L) w) : WL (⟨some d, o, ty, pos, aft, none⟩ :: rest) Tryz.prog ops Q N L w := wl_step tblT tblT_ok hs hd h
theorem um : Tryz.prog.underlying 61 = some (.map 77 22) := by kernel_rfl
theorem uk : Tryz.prog.underlying 77 = some (.int .u32) := by kernel_rfl
theorem to_map : tyOne Tryz.prog 61 = true := by kernel_rfl
theorem zv_tags (w : World) : (zeroValue 63).run Tryz.prog w = .ok (.agg #[.map none]) w := by kernel_rfl
theorem ta_tags : tyAgg Tryz.prog 63 = some 1 := by kernel_rfl
theorem tz_tags : (Tryz.prog.info? 63).map (·.size) = some 1 := by kernel_rfl
def TagsAt (w : World) (sb lo : Nat) (m : Value) (u : List (Nat × List UInt8)) : Prop := (m = .map none ∧ u = []) ∨ ∃ r, m = .map (some r) ∧ lo ≤ r ∧ TagMap w sb r u
theorem TagsAt.keep {w w' : World} {S : Nat → Prop} {sb lo : Nat} {m : Value} {u : List (Nat × List UInt8)} (h : TagsAt w sb lo m u) (hc : Chg S w w') (hr : ∀ r, lo ≤ r → r < w.heap.size → ¬ S r) (hs : ¬ S sb) (hsb : sb < w.heap.size) : TagsAt w' sb lo m u := by
 rcases h with h | ⟨r, rfl, hlo, ht⟩
 ·exact .inl h
 ·have hlt : r < w.heap.size := by
   obtain ⟨⟨es, clock, hb, _⟩, _⟩ := ht
   exact (Array.getElem?_eq_some_iff.1 hb).1
  exact .inr ⟨r, rfl, hlo, ht.keep hc (hr r hlo hlt) hs hsb⟩
theorem fn_set (w : World) (tb sb lo key : Nat) (val m : Value) (u : List (Nat × List UInt8)) (e : TypeId) (s : List UInt8) (hb : Box w tb [m] e) (ht : TagsAt w sb lo m u) (hv : SrcV w sb val s) (h1 : tb < lo) (h2 : sb < lo) (h3 : lo ≤ w.heap.size) (h4 : tb ≠ sb) :
  Calls Tryz.prog 117 #[.pointer (some ⟨tb, 0, none⟩), .int .u32 key, val] w fun en w' => en = .returned (.tuple #[]) ∧ ∃ m', Box w' tb [m'] e ∧ TagsAt w' sb lo m' (setTag key s u) ∧ Chg (fun j => j = tb ∨ lo ≤ j) w w' := by
 refine enter Tryz.func117 rfl Tryz.ntmps117 rfl ?_
 have upd : ∀ (w1 : World) (r : Nat) (u1 : List (Nat × List UInt8)), Box w1 tb [.map (some r)] e → lo ≤ r → TagMap w1 sb r u1 → SrcV w1 sb val s → sb < w1.heap.size → Chg (fun j => j = tb ∨ lo ≤ j) w w1 → setTag key s u1 = setTag key s u →
   ∃ w', (Instr.mapUpdate 61 (.map (some r)) (.int .u32 key) val).run Tryz.prog w1 = .ok () w' ∧ (∃ m', Box w' tb [m'] e ∧ TagsAt w' sb lo m' (setTag key s u) ∧ Chg (fun j => j = tb ∨ lo ≤ j) w w') := by
  intro w1 r u1 hb1 hr htm hv1 hsb hc heq
  obtain ⟨w', hrun, hc', _, ht'⟩ := run_tagSet um uk htm (by omega) hsb key hv1
  exact ⟨w', hrun, _, hb1.chg hc' (by show tb ≠ r; omega), .inr ⟨r, rfl, hr, by rw [← heq]; exact ht'⟩, hc.trans (hc'.wide (fun j hj => .inr (by have : j = r := hj; omega)))⟩
 rcases ht with ⟨rfl, rfl⟩ | ⟨r, rfl, hr, htm⟩
 ·refine wc_seq (wc_seq (wc_region ?_))
  refine wt rfl rfl ?_
  refine wt rfl rfl ?_
  refine wt rfl rfl ?_
  refine wl_loadB rfl to_map rfl hb rfl ?_
  refine wl_mapNil rfl (by kernel_rfl) rfl ?_
  refine wl_nil (qk_thn (wc_yes rfl rfl (wc_region ?_)))
  refine wt rfl rfl ?_
  refine wl_makeMap rfl ?_
  have hal : Chg (fun _ => False) w (w.alloc (.map #[] 0)) := chg_alloc w _ _
  have hnew := tagMap_new w sb
  have hb1 := hb.chg hal id
  have hs1 : (w.alloc (.map #[] 0)).heap.size = w.heap.size + 1 := by simp
  have hv1 := hv.chg hal id
  generalize w.alloc (.map #[] 0) = w1 at *
  refine wt rfl rfl ?_
  refine wt rfl rfl ?_
  refine wl_storeB rfl rfl to_map rfl hb1 rfl (fun w2 hb2 hg2 hs2 => ?_)
  have hc2 := Chg.grown hg2
  have hne : ∀ j : Nat, (fun j => j = tb) j → j ≠ w.heap.size := fun j hj => by have : j = tb := hj; omega
  obtain ⟨w3, hrun, m', hb3, ht3, hc3⟩ := upd w2 w.heap.size [] hb2 h3 (hnew.keep hc2 (fun e => by have : w.heap.size = tb := e; omega) (fun e => h4 e.symm) (by omega)) (hv1.chg hc2 (fun e => h4 e.symm)) (by omega) ((hal.wide (fun _ h => h.elim)).trans (hc2.wide (fun j hj => .inl hj))) rfl
  refine wl_nil (qk_thn (wc_region ?_))
  refine wt rfl rfl ?_
  refine wt rfl rfl ?_
  refine wt rfl rfl ?_
  refine wl_loadB rfl to_map rfl hb2 rfl ?_
  refine wt rfl rfl ?_
  refine wt rfl rfl ?_
  refine wl_mapUpd rfl rfl rfl hrun ?_
  exact wl_nil (qk_end0 rfl ⟨rfl, m', hb3, ht3, hc3⟩)
 ·obtain ⟨w3, hrun, m', hb3, ht3, hc3⟩ := upd w r u hb hr htm hv (by omega) (Chg.refl _ _) rfl
  refine wc_seq (wc_seq (wc_region ?_))
  refine wt rfl rfl ?_
  refine wt rfl rfl ?_
  refine wt rfl rfl ?_
  refine wl_loadB rfl to_map rfl hb rfl ?_
  refine wl_mapNil rfl (by kernel_rfl) rfl ?_
  refine wl_nil (qk_thn (wc_no rfl rfl (wc_skip (qk_thn (wc_region ?_)))))
  refine wt rfl rfl ?_
  refine wt rfl rfl ?_
  refine wt rfl rfl ?_
  refine wl_loadB rfl to_map rfl hb rfl ?_
  refine wt rfl rfl ?_
  refine wt rfl rfl ?_
  refine wl_mapUpd rfl rfl rfl hrun ?_
  exact wl_nil (qk_end0 rfl ⟨rfl, m', hb3, ht3, hc3⟩)
end Go.Proofs.YtlmnaffhadeolaaGreatDoor.Rdk

namespace Go.Proofs.YtlmnaffhadeolaaGreatDoor
open Go Go.RowKit
section
set_option maxRecDepth 100000
end
end Go.Proofs.YtlmnaffhadeolaaGreatDoor

namespace Go.Proofs.YtlmnaffhadeolaaGreatDoor
open Go Go.RowKit
section
variable {P : Program} {ops : Array Oper} {Q : Exit → Act → World → Prop} {N : Nat} {rest : List Oper} {L : Sl} {w : World} {d : Nat} {ty : TypeId} {pos : String} {aft : Array Edge}
end
section
set_option maxRecDepth 100000
end
end Go.Proofs.YtlmnaffhadeolaaGreatDoor

namespace Go.Proofs.YtlmnaffhadeolaaGreatDoor
open Go Go.RowKit
section
set_option maxRecDepth 100000
end
end Go.Proofs.YtlmnaffhadeolaaGreatDoor

namespace Go.Proofs.YtlmnaffhadeolaaGreatDoor
open Go Go.RowKit
theorem be_length : ∀ (k : Nat) (n : Int), (be k n).length = k
 | 0, _ => rfl
 | k + 1, n => by simp [be, be_length k n]
section
set_option maxRecDepth 100000
end
end Go.Proofs.YtlmnaffhadeolaaGreatDoor

namespace Go.Proofs.YtlmnaffhadeolaaGreatDoor
open Go Go.RowKit
section
set_option maxRecDepth 100000
end
end Go.Proofs.YtlmnaffhadeolaaGreatDoor

namespace Go.Proofs.YtlmnaffhadeolaaGreatDoor
open Go Go.RowKit
def fns : List (Nat × Pf) :=
 []
def kt (tlen teach : Nat) (ver : Int) : Kt := ⟨fns, tlen, teach, .int .i16 ver⟩
end Go.Proofs.YtlmnaffhadeolaaGreatDoor

namespace Go.Proofs.YtlmnaffhadeolaaGreatDoor.Rdk
open Go Go.RowKit
theorem run_lenMap {P : Program} {t ty kt et : TypeId} (w : World) (m : Option Nat) (n : Nat) (h : P.underlying t = some (.map kt et)) (hm : (m = none ∧ n = 0) ∨ ∃ r es clock, m = some r ∧ w.heap[r]? = some (.map es clock) ∧ es.size = n) :
  (Builtin.len_ #[t] ty #[.map m]).run P w = .ok (.int .i64 (n : Int)) w := by
 rcases hm with ⟨rfl, rfl⟩ | ⟨r, es, clock, rfl, hb, rfl⟩
 ·simp [Builtin.len_, run_underlying h, goInt]
 ·simp [Builtin.len_, run_underlying h, MapKept.run_getObj_map hb, goInt]
theorem mp_len {ok : Nat → Prop} {w : World} {kvs : List (Nat × D)} {v : Value} (h : Rep ok w (.mp kvs) [v]) : ∃ m, v = .map m ∧ ((m = none ∧ kvs.length = 0) ∨ ∃ r es clock, m = some r ∧ w.heap[r]? = some (.map es clock) ∧ es.size = kvs.length) := by
 simp only [Rep] at h
 rcases h with ⟨e, rfl⟩ | ⟨r, es, clock, e, _, hb, hm, _⟩
 ·simp only [List.cons.injEq, and_true] at e
  exact ⟨none, e, .inl ⟨rfl, rfl⟩⟩
 ·simp only [List.cons.injEq, and_true] at e
  exact ⟨some r, e, .inr ⟨r, es, clock, rfl, hb, by rw [hm.1, List.length_map]⟩⟩
section
variable {P : Program} {ops : Array Oper} {Q : Exit → Act → World → Prop} {N : Nat} {rest : List Oper} {L : Sl} {w : World} {d : Nat} {ty : TypeId} {pos : String} {aft : Array Edge}
theorem wl_lenMap {x : Operand} {t kt et : TypeId} {m : Option Nat} {n : Nat} (hx : ev L x = some (.map m)) (hu : P.underlying t = some (.map kt et)) (hm : (m = none ∧ n = 0) ∨ ∃ r es clock, m = some r ∧ w.heap[r]? = some (.map es clock) ∧ es.size = n) (hd : Nat.blt d N = true)
  (h : WL rest P ops Q N ((d, .int .i64 (n : Int)) :: L) w) : WL (⟨some d, .call ⟨.builtin .len, #[x], #[t]⟩, ty, pos, aft, none⟩ :: rest) P ops Q N L w := by
 intro a k
 refine st_of (o := ⟨some d, .call ⟨.builtin .len, #[x], #[t]⟩, ty, pos, aft, none⟩) rfl ?_ (h _ (k.put _ hd))
 simp [execOp, resolve, k.eval hx, invoke, builtin, run_lenMap w m n hu hm]
end
end Go.Proofs.YtlmnaffhadeolaaGreatDoor.Rdk

namespace Go.Proofs.YtlmnaffhadeolaaGreatDoor.Rdk
open Go Go.RowKit Go.Sort Go.Lib Go.Shelf
set_option maxRecDepth 100000
noncomputable def siT : TypeInfo := (Tryz.prog.info? 166).get (by kernel_rfl)
noncomputable def siE : TypeInfo := (Tryz.prog.info? 77).get (by kernel_rfl)
theorem siK (n : Nat) (h2 : 2 ≤ n) : Lib.swapperK n siE 10 = 6 := by
 have a : siE.hasPointers = false := by kernel_rfl
 have b : siE.bytes = 4 := by kernel_rfl
 have c : (n == 0) = false := by simp; omega
 have d : (n == 1) = false := by simp; omega
 simp [Lib.swapperK, a, b, c, d]
set_option maxHeartbeats 2000000 in
theorem less_u32 (blk off c Bs size : Nat) (W : World) (G : Nat → Int) (hs : W.cell? ⟨Bs, 0, none⟩ = some (.slice (some ⟨blk, off, none⟩) size c))
  (hc : ∀ t, t < size → W.cell? ⟨blk, off + t, none⟩ = some (.int .u32 (G t))) (i j : Nat) (hi : i < size) (hj : j < size) :
  Calls Tryz.prog 121 #[.int .i64 i, .int .i64 j, .pointer (some ⟨Bs, 0, none⟩)] W fun e w' => e = .returned (.bool (decide (G i < G j))) ∧ ∃ q, w' = W.drewN q := by
 have ci := hc i hi
 have cj := hc j hj
 go_enter Tryz.func121, Tryz.ntmps121
 go_wp2
 go_quiet (fail)
 go_wp2
 go_ret
 exact ⟨rfl, nq, rfl⟩
abbrev encU : Int → Value := Value.int .u32
theorem holds_row {w : World} {B blk cap : Nat} {e : TypeId} {zs : List Int} (h : w.ownsRow B e 1 (.slice (some ⟨blk, 0, none⟩) zs.length cap) zs.length (zs.map encU)) : Holds encU w blk 0 zs.toArray := by
 obtain ⟨_, ⟨he, _⟩ | ⟨g, cap', cur, he, _, hheap, hle, hcap, hcs, htake⟩⟩ := h
 ·cases he
 ·cases he
  intro j hj
  have hj' : j < zs.length := by simpa using hj
  have hx : cur[j]? = some (encU zs[j]) := by
   have : (cur.toList.take (zs.length * 1))[j]? = some (encU zs[j]) := by rw [htake]; simp [hj']
   rw [List.getElem?_take] at this
   split at this
   ·simpa using this
   ·cases this
  refine ⟨?_, by simp [World.frozen?, hheap]⟩
  rw [show (zs.toArray)[j]! = zs[j] by simp [hj']]
  simp [World.cell?, hheap, hx]
theorem sorted_row {w w' : World} {blk n : Nat} {cur : Array Value} {e : TypeId} {d' : Array Int} {os : Array Obj} (hb : w.heap[blk]? = some (.cells cur e (0, 0))) (hsz : d'.size ≤ cur.size) (hw : w' = grow (putRow encU (Sort.ahead w n) blk 0 d') os) :
  CellsAt w' blk 0 (d'.toList.map encU) ∧ Chg (· = blk) w w' := by
 subst hw
 have hlt : blk < w.heap.size := (Array.getElem?_eq_some_iff.1 hb).1
 have hbl : (putRow encU (Sort.ahead w n) blk 0 d').heap[blk]? = some (.cells (putCells encU 0 d' cur) e (0, 0)) := by
  simp [putRow, mapBlock, Sort.ahead, Array.getElem?_modify, hb, onCells]
 constructor
 ·refine ⟨putCells encU 0 d' cur, e, (0, 0), by rw [heap_grow_old _ _ (by simpa using hlt)]; exact hbl, by simp [putCells]; omega, fun i v hv => ?_⟩
  rw [List.getElem?_map] at hv
  have hi : i < d'.size := by
   cases hx : d'.toList[i]? with
   | none => rw [hx] at hv; cases hv
   | some x => simpa using (List.getElem?_eq_some_iff.1 hx).1
  simp only [Array.getElem?_toList, Array.getElem?_eq_getElem hi, Option.map_some, Option.some.injEq] at hv
  have hic : i < cur.size := by omega
  simp only [Nat.zero_add, putCells, Array.getElem?_mapIdx, Array.getElem?_eq_getElem hic, Option.map_some, Nat.zero_le, true_and, if_pos hi, Nat.sub_zero]
  rw [getElem!_pos d' i hi, hv]
 ·refine ⟨rfl, rfl, rfl, by simp, fun k hk hne => ?_⟩
  rw [heap_grow_old _ _ (by simpa using hk)]
  have : blk ≠ k := fun e => hne e.symm
  simp [putRow, mapBlock, Sort.ahead, Array.getElem?_modify, this]
theorem tiny_sorted : ∀ (zs : List Int), zs.length ≤ 1 → zs.Pairwise (fun x y => x ≤ y)
 | [], _ => List.Pairwise.nil
 | [_], _ => List.pairwise_singleton _ _
theorem fn_sortTiny (p : Option Addr) (n c : Nat) (h1 : n ≤ 1) (Bs : Nat) (w : World) :
  Calls Tryz.prog 120 #[.iface 166 (.slice p n c), .func (.func 121) #[] #[.pointer (some ⟨Bs, 0, none⟩)]] w fun e w' => e = .returned (.tuple #[]) ∧ ∃ os, w' = grow w os := by
 have hK : Lib.swapperK n siE 10 = n + 1 := by
  rcases Nat.eq_zero_or_pos n with h | h
  ·subst h; simp [Lib.swapperK]
  ·obtain rfl : n = 1 := by omega
   simp [Lib.swapperK]
 exact Any.sort_Slice_tiny Tryz.gl6 166 77 siT siE (by kernel_rfl) (by kernel_rfl) (by kernel_rfl) (by kernel_rfl) 10 (fun _ => by kernel_rfl) p n c h1 (165 + n) (by
  rw [hK]
  rcases Nat.eq_zero_or_pos n with h | h
  ·subst h; kernel_rfl
  ·obtain rfl : n = 1 := by omega
   kernel_rfl) (.func 121) #[] #[.pointer (some ⟨Bs, 0, none⟩)] w
set_option maxHeartbeats 2000000 in
theorem fn_sort (w : World) (B blk cap Bs : Nat) (e0 : TypeId) (zs : List Int) (hlen : zs.length < 4611686018427387904) (hbs : Box w Bs [.slice (some ⟨blk, 0, none⟩) zs.length cap] e0)
  (hrow : w.ownsRow B 77 1 (.slice (some ⟨blk, 0, none⟩) zs.length cap) zs.length (zs.map encU)) (hne : Bs ≠ blk) :
  Calls Tryz.prog 120 #[.iface 166 (.slice (some ⟨blk, 0, none⟩) zs.length cap), .func (.func 121) #[] #[.pointer (some ⟨Bs, 0, none⟩)]] w fun e w' =>
   e = .returned (.tuple #[]) ∧ ∃ zs' : List Int, zs'.Perm zs ∧ zs'.Pairwise (fun x y => x ≤ y) ∧ CellsAt w' blk 0 (zs'.map encU) ∧ Chg (· = blk) w w' := by
 have hH := holds_row hrow
 obtain ⟨hxl, ⟨he, _⟩ | ⟨g, cap', cur, he, hBg, hheap, hle, hcap, hcs, htake⟩⟩ := id hrow
 ·cases he
 cases he
 have hblk : blk < w.heap.size := (Array.getElem?_eq_some_iff.1 hheap).1
 have hsz : zs.toArray.size = zs.length := by simp
 by_cases h2 : 2 ≤ zs.length
 ·have hless : LessReads Tryz.prog 121 #[.pointer (some ⟨Bs, 0, none⟩)] encU ltInt blk 0 zs.toArray.size w := by
   intro m os dk hs i j hi hj
   rw [hsz] at hs hi hj
   refine less_u32 blk 0 cap Bs zs.length _ (fun t => dk[t]!) ?_ (fun t ht => ?_) i j hi hj
   ·unfold sortWorld
    rw [cell?_grow _ _ _ (by simpa using hbs.lt), cell?_putRow_other _ _ blk 0 dk _ (Or.inl hne)]
    exact hbs.cell (i := 0) rfl
   ·unfold sortWorld
    rw [cell?_grow _ _ _ (by simpa using hblk)]
    exact cell?_putRow encU (Sort.ahead w m) blk 0 zs.toArray dk (holds_ahead _ _ _ _ _ _ hH) (by rw [hs, hsz]) t (by omega)
  have hS := Any.sort_Slice_sorted Tryz.gl6 166 77 siT siE (by kernel_rfl) (by kernel_rfl) (by kernel_rfl) (by kernel_rfl) 10 (fun _ => by kernel_rfl) (by kernel_rfl) (fun _ => by kernel_rfl) encU (fun _ => rfl) ltInt swo_ltInt 121 _
   (enters_of Tryz.func121 (by kernel_rfl) rfl) blk 0 cap zs.toArray (by rw [hsz]; exact h2) (by rw [hsz]; exact hlen) 170 (by rw [hsz, siK _ h2]; kernel_rfl) true
   (fun args W => run_callFunc_extern Tryz.func170 (by kernel_rfl) (by kernel_rfl) (by kernel_rfl) (e := Extern.ReflectliteSwapper.swap true) (by kernel_rfl) args W) w hless hH hblk
  change Calls Tryz.prog 120 _ _ _ at hS
  rw [hsz] at hS
  refine hS.mono (fun e w' h => ?_)
  obtain ⟨h1, d', n, os, hp, hso, hw⟩ := h
  have hd : d'.size = zs.length := by rw [hp.1, hsz]
  refine ⟨h1, d'.toList, ?_, ?_, ?_⟩
  ·have := hp.2.2
   rw [← hd] at this
   have e1 : d'.toList.take zs.length = d'.toList := List.take_of_length_le (by simp; omega)
   simpa [hd, e1] using this
  ·rw [List.pairwise_iff_getElem]
   intro i j hi hj hij
   have hi' : i < d'.size := by simpa using hi
   have hj' : j < d'.size := by simpa using hj
   have := hso i j (Nat.zero_le _) hij (by omega)
   rw [getElem!_pos d' i hi', getElem!_pos d' j hj'] at this
   simp only [ltInt, decide_eq_false_iff_not] at this
   simp only [Array.getElem_toList]
   omega
  ·exact sorted_row hheap (by rw [hcs, hd]; omega) hw
 ·have hn : zs.length ≤ 1 := by omega
  have hS := fn_sortTiny (some ⟨blk, 0, none⟩) zs.length cap hn Bs w
  refine hS.mono (fun e w' h => ?_)
  obtain ⟨h1, os, hw⟩ := h
  refine ⟨h1, zs, List.Perm.refl _, ?_, ?_⟩
  ·exact tiny_sorted zs hn
  ·subst hw
   refine ⟨⟨cur, 77, (0, 0), by rw [heap_grow_old _ _ hblk]; exact hheap, by rw [List.length_map]; omega, fun i v hv => ?_⟩, ⟨rfl, rfl, rfl, by simp, fun k hk _ => heap_grow_old _ _ hk⟩⟩
   rw [← htake, List.getElem?_take] at hv
   split at hv
   ·simpa using hv
   ·cases hv
end Go.Proofs.YtlmnaffhadeolaaGreatDoor.Rdk

namespace Go.Proofs.YtlmnaffhadeolaaGreatDoor.Ea
open Go Go.RowKit Rdk
set_option maxRecDepth 100000
theorem rt_u32 : rowTy Tryz.prog 166 77 1 = true := by kernel_rfl
theorem to_u32s : tyOne Tryz.prog 166 = true := by kernel_rfl
theorem es_u32s : elemSize Tryz.prog 166 = some 1 := by kernel_rfl
theorem el_u32s : (elemSize Tryz.prog 166).isSome = true := by kernel_rfl
theorem un_u32s : Tryz.prog.underlying 166 = some (.slice 77) := by kernel_rfl
theorem zv_u32s (w : World) : (zeroValue 166).run Tryz.prog w = .ok (.slice none 0 0) w := by kernel_rfl
theorem ne_u32s : (166 : Nat) ≠ 77 := by decide
theorem rising_len : ∀ (l : List Nat) (lo M : Nat), l.Pairwise (· < ·) → (∀ x ∈ l, lo ≤ x ∧ x < M) → l.length ≤ M - lo
 | [], _, _, _, _ => by simp
 | x :: l, lo, M, hp, h => by
  have hp' := List.pairwise_cons.1 hp
  have hx := h x (by simp)
  have := rising_len l (x + 1) M hp'.2 (fun y hy => ⟨hp'.1 y hy, (h y (by simp [hy])).2⟩)
  simp only [List.length_cons]; omega
theorem row_block {w : World} {B e sz n g : Nat} {d : Value} {xs : List Value} (h : w.ownsRow B e sz d n xs) (hg : d.ownBlock = some g) : ∃ cur, w.heap[g]? = some (.cells cur e (0, 0)) := by
 rcases h.2 with ⟨rfl, _⟩ | ⟨g', cap', cur, rfl, _, hheap, _⟩
 ·simp [Value.ownBlock] at hg
 ·simp only [Value.ownBlock, Option.some.injEq] at hg; subst hg; exact ⟨cur, hheap⟩
theorem Row.kept {w w' : World} {B e sz n : Nat} {d : Value} {xs : List Value} {row : Option Nat} (h : w.ownsRow B e sz d n xs) (hg : w.grownBy w' row) (hne : d.ownBlock = none ∨ d.ownBlock ≠ row) : w'.ownsRow B e sz d n xs :=
 World.ownsRow.kept h hg hne
theorem nodup_one {α β : Type} (f : α → β) : ∀ (l : List α), (l.map f).Nodup → ∀ x ∈ l, ∀ y ∈ l, f x = f y → x = y
 | [], _, x, hx, _, _, _ => by cases hx
 | a :: l, hn, x, hx, y, hy, h => by
  simp only [List.map_cons, List.nodup_cons] at hn
  rcases List.mem_cons.1 hx with e1 | h1
  ·rcases List.mem_cons.1 hy with e2 | h2
   ·rw [e1, e2]
   ·exact (hn.1 (List.mem_map.2 ⟨y, h2, by rw [← h, e1]⟩)).elim
  ·rcases List.mem_cons.1 hy with e2 | h2
   ·exact (hn.1 (List.mem_map.2 ⟨x, h1, by rw [h, e2]⟩)).elim
   ·exact nodup_one f l hn.2 x h1 y h2 h
theorem leftOf_nil (es : Array MapEntry) : leftOf es #[] = es := by
 unfold leftOf
 exact Array.filter_eq_self.2 (by simp)
set_option maxHeartbeats 4000000 in
theorem fn_eachG (w : World) (B b off f : Nat) (bs : List Value) (kvs : List (Nat × D)) (v : Value) (S : Nat → Prop) (Inv : Nat → World → World → Prop) (hf : isFn Tryz.prog f = true) (hkeys : ∀ k ∈ kvs.map (·.1), k < 4294967296) (hb : b < B) (hc : w.cell? ⟨b, off, none⟩ = some v) (hr : Rep (Lo B) w (.mp kvs) [v]) (hB : B ≤ w.heap.size)
  (hS : ∀ j, S j → B ≤ j ∧ j < w.heap.size) (h0 : ∀ w6, Chg (fun j => w.heap.size ≤ j) w w6 → Inv 0 w6 w6)
  (hstep : ∀ (i : Nat) (hi : i < kvs.length) (w6 w' : World) (en : Value), Inv i w6 w' → Chg (fun j => w.heap.size ≤ j) w w6 → Chg S w6 w' → Rep (Lo B) w' kvs[i].2 [en] →
   Calls Tryz.prog f (([.int .u32 ((kvs[i].1 : Nat) : Int), en] ++ bs).toArray) w' fun e w'' => e = .returned (.tuple #[]) ∧ Inv (i + 1) w6 w'' ∧ Chg S w6 w'') :
  Calls Tryz.prog 66 #[.pointer (some ⟨b, off, none⟩), .func (.func f) #[] bs.toArray] w fun en w' => en = .returned (.tuple #[]) ∧ ∃ w6, Chg (fun j => w.heap.size ≤ j) w w6 ∧ Inv kvs.length w6 w' ∧ Chg S w6 w' := by
 obtain ⟨m, rfl, hm⟩ := mp_len hr
 refine enter (vs := [.pointer (some ⟨b, off, none⟩), .func (.func f) #[] bs.toArray]) Tryz.func66 rfl Tryz.ntmps66 rfl ?_
 refine wc_seq (wc_seq (wc_region ?_))
 refine wt rfl rfl ?_
 refine wt rfl rfl ?_
 refine wt rfl rfl ?_
 refine wl_load rfl to_map rfl hc ?_
 refine wl_lenMap rfl um hm rfl ?_
 refine wt rfl rfl ?_
 refine wl_nil (qk_thn ?_)
 by_cases hz : kvs = []
 ·subst hz
  refine wc_yes rfl rfl (wc_ret (qk_thn_ret (qk_ret0 rfl ⟨rfl, w, Chg.refl _ _, h0 w (Chg.refl _ _), Chg.refl _ _⟩)))
 have hpos : 0 < kvs.length := List.length_pos_iff.2 hz
 refine wc_no rfl (by simp; omega) (wc_skip (qk_thn ?_))
 simp only [Rep] at hr
 rcases hr with ⟨_, h0⟩ | ⟨r, es, clock, hrm, hrB, hmap, hmapd, hks⟩
 ·exact absurd h0 hz
 simp only [List.cons.injEq, Value.map.injEq, and_true] at hrm
 subst hrm
 rw [repKs_iff] at hks
 have hlen32 : kvs.length ≤ 4294967296 := by
  have := rising_len (kvs.map (·.1)) 0 4294967296 hmapd.2.2.2 (fun x hx => ⟨Nat.zero_le _, hkeys x hx⟩)
  simpa using this
 have hbw : b < w.heap.size := by omega
 have hrw : r < w.heap.size := by have : r < B := hrB; omega
 refine wc_seq (wc_region ?_)
 refine wt rfl rfl ?_
 refine wt rfl rfl ?_
 refine wt rfl rfl ?_
 refine wl_load rfl to_map rfl hc ?_
 refine wl_lenMap rfl um hm rfl ?_
 refine wl_makeRow (B := w.heap.size) (n := kvs.length) rt_u32 rfl (by simp only [many]; omega) rfl (Nat.le_refl _) (fun w1 hrow1 hg1 hs1 => ?_)
 refine wl_alloc zv_u32s rfl rfl (fun w2 hb2 hg2 hs2 => ?_)
 refine wl_storeB rfl rfl to_u32s rfl hb2 rfl (fun w3 hb3' hg3 hs3 => ?_)
 have hb3 : Box w3 w1.heap.size [.slice (some ⟨w.heap.size, 0, none⟩) 0 kvs.length] 166 := hb3'
 clear hb3'
 have hrow3 := Row.kept (Row.kept hrow1 hg2 (.inr (by simp [Value.ownBlock]))) hg3 (.inr (by simp [Value.ownBlock]; omega))
 have hc13 : Chg (fun j => w.heap.size ≤ j) w w3 := ((Chg.grown0 hg1).trans (Chg.grown0 hg2)).trans ((Chg.grown hg3).wide (fun j hj => by have : j = w1.heap.size := hj; omega))
 have hmap3 : w3.heap[r]? = some (.map es clock) := (hc13.block r hrw (by omega)).trans hmap
 have hcell3 : w3.cell? ⟨b, off, none⟩ = some (.map (some r)) := by
  rw [← hc]; simp only [World.cell?, hc13.block b hbw (by omega)]
 refine wl_nil (qk_thn ?_)
 refine wc_seq (wc_seq (wc_region ?_))
 refine wt rfl rfl ?_
 refine wt rfl rfl ?_
 refine wt rfl rfl ?_
 refine wl_load rfl to_map rfl hcell3 ?_
 refine wl_range rfl um hmap3 rfl ?_
 have hit4 : (w3.alloc (.mapIter (some r) clock #[] clock)).heap[w3.heap.size]? = some (.mapIter (some r) clock #[] clock) := heap_alloc_new _ _
 have hs4 : (w3.alloc (.mapIter (some r) clock #[] clock)).heap.size = w3.heap.size + 1 := by simp
 have hg4 := grown_alloc w3 (.mapIter (some r) clock #[] clock)
 generalize w3.alloc (.mapIter (some r) clock #[] clock) = w4 at *
 have hb4 := hb3.kept hg4 (by simp)
 have hrow4 := Row.kept hrow3 hg4 (.inr (by simp [Value.ownBlock]))
 have hc14 : Chg (fun j => w.heap.size ≤ j) w w4 := hc13.trans (Chg.grown0 hg4)
 refine wl_nil (qk_thn ?_)
 refine wc_block (wc_loop (α := List Int × Value × Array Nat × Nat) (fun _ => [(0, .pointer (some ⟨b, off, none⟩)), (1, .func (.func f) #[] bs.toArray), (4, .pointer (some ⟨w1.heap.size, 0, none⟩)), (24, .pointer (some ⟨w3.heap.size, 0, none⟩))])
  (fun z w' => Box w' w1.heap.size [z.2.1] 166 ∧ w'.ownsRow w.heap.size 77 1 z.2.1 z.1.length (z.1.map encU) ∧ w'.heap[w3.heap.size]? = some (.mapIter (some r) clock z.2.2.1 z.2.2.2) ∧ clock ≤ z.2.2.2 ∧
   (z.1.map encU ++ (leftOf es z.2.2.1).toList.map (·.key)).Perm (es.toList.map (·.key)) ∧ Chg (fun j => w.heap.size ≤ j) w w')
  (fun z => (leftOf es z.2.2.1).size) ([], .slice (some ⟨w.heap.size, 0, none⟩) 0 kvs.length, #[], clock) ⟨rfl, rfl, rfl, rfl, trivial⟩ ⟨hb4, hrow4, hit4, Nat.le_refl _, ?_, hc14⟩ ?_)
 ·simp [leftOf_nil]
 ·rintro ⟨zs, dv, seen, c0⟩ w5 ⟨hb5, hrow5, hit5, hcl5, hperm5, hc5⟩
  simp only [] at hb5 hrow5 hit5 hcl5 hperm5
  have hmap5 : w5.heap[r]? = some (.map es clock) := (hc5.block r hrw (by omega)).trans hmap
  refine wc_seq (wc_region ?_)
  refine wl_next rfl hit5 hmap5 hmapd.2.1.1 hcl5 rfl (fun hleft => ?_) (fun en hen w6 hit6 hc6 hs6 => ?_)
  ·-- nothing is left
   have hl0 : (leftOf es seen).toList = [] := List.length_eq_zero_iff.1 (by simpa using hleft)
   rw [hl0] at hperm5
   simp only [List.map_nil, List.append_nil] at hperm5
   have hzl : zs.length = kvs.length := by
    have := hperm5.length_eq
    simp only [List.length_map, Array.length_toList] at this
    rw [this, hmapd.1, List.length_map]
   obtain ⟨g, cap, rfl, hBg, hglt, _⟩ := Row.cells hrow5 (by omega)
   obtain ⟨cur, hcur⟩ := row_block (g := g) hrow5 rfl
   have hog : w1.heap.size ≠ g := by
    intro e'
    have h1 : w5.heap[w1.heap.size]? = some (.cells cur 77 (0, 0)) := by rw [e']; exact hcur
    have h2 := hb5
    simp only [Box, h1, Option.some.injEq, Obj.cells.injEq] at h2
    exact ne_u32s h2.2.1.symm
   refine wl_extract rfl rfl rfl ?_
   repeat (with_reducible first|apply wc_seq|apply wl_nil|apply qk_thn)
   refine wc_no rfl rfl ?_
   repeat (with_reducible first|apply wc_seq|apply wc_region|apply qk_thn|apply wc_exit|apply qk_thn_exit|apply qk_in_exit|apply qk_round_exit)
   refine wl_loadB rfl to_u32s rfl hb5 rfl ?_
   refine wl_makeIface rfl un_u32s rfl ?_
   refine wl_makeFunc (caps := [.tmp 4]) rfl rfl ?_
   refine wl_call rfl (by kernel_rfl) rfl ((fn_sort w5 w.heap.size g cap w1.heap.size _ zs (by omega) hb5 hrow5 hog).mono ?_)
   rintro en w6 ⟨rfl, zs', hp', hso', hcs6, hc6⟩
   refine ⟨_, rfl, ?_⟩
   have hzz : zs' = (kvs.map (·.1)).map (fun k : Nat => (k : Int)) := keys_sorted hmapd (fun k hk => by
    obtain ⟨kv, hkv, rfl⟩ := List.mem_map.1 hk
    obtain ⟨x, hx, hxk, _⟩ := hks kv hkv
    exact ⟨x, hx, hxk⟩) hperm5 hp' hso'
   subst hzz
   have hc06 : Chg (fun j => w.heap.size ≤ j) w w6 := hc5.trans (hc6.wide (fun j hj => by have : j = g := hj; omega))
   have hw6 : Below w.heap.size w w6 := ⟨hc06.os, hc06.tape, hc06.output, hc06.size, fun k hk => hc06.block k hk (by omega)⟩
   have hb6 := hb5.chg hc6 hog
   repeat (with_reducible first|apply wc_seq|apply wc_region|apply wl_nil|apply qk_thn)
   refine wl_loadB rfl to_u32s rfl hb6 rfl ?_
   refine wl_len rfl el_u32s rfl ?_
   repeat first|(with_reducible first|apply wl_nil|apply qk_thn|apply wc_block)|((with_reducible apply ws);exact rfl;exact rfl)
   refine wc_loop (α := Nat) (fun z => [(0, .pointer (some ⟨b, off, none⟩)), (1, .func (.func f) #[] bs.toArray), (37, .slice (some ⟨g, 0, none⟩) zs.length cap), (38, .int .i64 (zs.length : Int)), (39, .int .i64 (z : Int))])
    (fun z w' => z ≤ kvs.length ∧ Inv z w6 w' ∧ Chg S w6 w')
    (fun z => kvs.length - z) 0 ⟨rfl, rfl, rfl, rfl, rfl, trivial⟩ ⟨Nat.zero_le _, h0 w6 hc06, Chg.refl _ _⟩ ?_
   rintro i w7 ⟨hin, hI7, hc7⟩
   have hs7 := hc7.size
   have hs6 := hc06.size
   repeat first|(with_reducible first|apply wc_seq|apply wc_region|apply wl_nil|apply qk_thn)|((with_reducible apply ws);exact rfl;exact rfl)
   by_cases hi : i < kvs.length
   ·refine wc_yes rfl (by simp; omega) ?_
    repeat (with_reducible first|apply wc_seq|apply wc_region|apply qk_thn|apply wc_block|apply wc_skip)
    have hkeep : ∀ j, j < w.heap.size → ¬ S j → w7.heap[j]? = w.heap[j]? := fun j hj h1 => by
     rw [hc7.block j (by omega) h1]
     exact hc06.block j hj (by omega)
    have hnS : ∀ j, j < B → ¬ S j := fun j hj h => by have := (hS j h).1; omega
    have hgk : w7.heap[g]? = w6.heap[g]? := hc7.block g (by have := hc6.size; omega) (fun h => by have := (hS g h).2; omega)
    refine wl_indexAddr rfl rfl es_u32s rfl (by omega) ?_
    refine wl_load rfl to_u32 rfl (v := .int .u32 ((kvs[i].1 : Nat) : Int)) ?_ ?_
    ·have h1 := (hcs6.of_block hgk).cell (i := i) (v := encU ((kvs[i].1 : Nat) : Int)) (by simp [hi])
     rw [Nat.mul_one]; exact h1
    repeat first|(with_reducible first|apply wc_region|apply wl_nil|apply qk_thn)|((with_reducible apply ws);exact rfl;exact rfl)
    refine wt rfl rfl ?_
    refine wl_load rfl to_map rfl (v := .map (some r)) ?_ ?_
    ·rw [← hc]
     show w7.cell? ⟨b, off, none⟩ = _
     simp only [World.cell?, hkeep b hbw (hnS b hb)]
    have hrB' : r < B := hrB
    have hmap7 : w7.heap[r]? = some (.map es clock) := (hkeep r hrw (hnS r hrB')).trans hmap
    have hkin : kvs[i] ∈ kvs := List.getElem_mem hi
    obtain ⟨x0, hx0, hx0k, hx0r⟩ := hks kvs[i] hkin
    repeat ((with_reducible apply ws);exact rfl;exact rfl)
    refine wl_lookup rfl rfl um uk hmap7 hmapd ⟨x0, hx0, hx0k⟩ rfl (fun en hen hek => ?_)
    obtain rfl : en = x0 := nodup_one (·.key) es.toList hmapd.2.1.2.2 en (Array.mem_toList_iff.2 hen) x0 (Array.mem_toList_iff.2 hx0) (by rw [hek, hx0k])
    have hr7 : Rep (Lo B) w7 kvs[i].2 [en.val] := Rep.mono (fun q hq => ⟨hq, hkeep q (by have h3 : q < B := hq; omega) (hnS q hq)⟩) _ _ hx0r
    refine wl_callV (vs := [.int .u32 ((kvs[i].1 : Nat) : Int), en.val]) (bs := bs) (args := [.tmp 44, .tmp 50]) rfl rfl hf rfl ((hstep i hi w6 w7 en.val hI7 hc06 hc7 hr7).mono ?_)
    rintro en' w8 ⟨rfl, hI8, hc8⟩
    refine ⟨_, rfl, ?_⟩
    repeat (with_reducible first|apply wc_region|apply wl_nil|apply qk_thn|apply qk_in)
    refine wl_add rfl rfl rfl (r := ((i + 1 : Nat) : Int)) (by rw [IntKind.wrap_i64]; omega) ?_
    repeat first|(with_reducible apply wl_nil)|((with_reducible apply ws);exact rfl;exact rfl)
    refine qk_round (i + 1) ⟨rfl, rfl, rfl, rfl, rfl, trivial⟩ ⟨hi, hI8, hc8⟩ (by show kvs.length - (i + 1) < kvs.length - i; omega)
   ·refine wc_no rfl (by simp; omega) ?_
    repeat (with_reducible first|apply wc_exit|apply qk_thn_exit|apply qk_in_exit|apply qk_round_exit)
    have hie : i = kvs.length := by omega
    subst hie
    exact qk_end0 rfl ⟨rfl, w6, hc06, hI7, hc7⟩
  ·-- one more key
   have hen' : en ∈ es.toList := by
    simp only [leftOf, Array.toList_filter, List.mem_filter] at hen
    exact hen.1
   obtain ⟨k, _, hek⟩ := hmapd.2.2.1 en hen'
   have hpush := leftOf_push hen hmapd.2.1.2.1
   have hzle : zs.length < es.size := by
    have h1 := hperm5.length_eq
    have h2 := hpush.length_eq
    simp only [List.length_append, List.length_map, Array.length_toList, List.length_cons] at h1 h2
    omega
   have hes : es.size = kvs.length := by rw [hmapd.1, List.length_map]
   have hs5 := hc5.size
   have hits : w3.heap.size < w5.heap.size := (Array.getElem?_eq_some_iff.1 hit5).1
   have hne5 : dv.ownBlock ≠ some w3.heap.size := by
    intro h
    obtain ⟨cur, hcur⟩ := row_block hrow5 h
    rw [hcur] at hit5; cases hit5
   have hno5 : dv.ownBlock ≠ some w1.heap.size := by
    intro h
    obtain ⟨cur, hcur⟩ := row_block hrow5 h
    have h2 := hb5
    simp only [Box, hcur, Option.some.injEq, Obj.cells.injEq] at h2
    exact ne_u32s h2.2.1.symm
   have hib : w1.heap.size ≠ w3.heap.size := by omega
   have hb6 := hb5.chg hc6 (fun h : w1.heap.size = w3.heap.size => hib h)
   have hg6 : w5.grownBy w6 (some w3.heap.size) := ⟨hc6.os, hc6.tape, hc6.output, hc6.size, fun j hj hn => hc6.block j hj (fun h => hn (by rw [h]))⟩
   have hrow6 := Row.kept hrow5 hg6 (.inr hne5)
   have hmap6 : w6.heap[r]? = some (.map es clock) := (hc6.block r (by omega) (fun h : r = w3.heap.size => by omega)).trans hmap5
   refine wl_extract rfl rfl rfl ?_
   repeat (with_reducible first|apply wc_seq|apply wl_nil|apply qk_thn)
   refine wc_yes rfl rfl ?_
   repeat (with_reducible first|apply wc_seq|apply wc_region|apply qk_thn|apply wc_block|apply wc_skip)
   refine wl_entry rfl hit6 hmap6 hen' hmapd.2.1.2.1 rfl ?_
   rw [hek]
   refine wl_extract rfl rfl rfl ?_
   repeat first|(with_reducible first|apply wc_region|apply wl_nil|apply qk_thn)|((with_reducible apply ws);exact rfl;exact rfl)
   refine wl_loadB rfl to_u32s rfl hb6 rfl ?_
   repeat ((with_reducible apply ws);exact rfl;exact rfl)
   refine wl_app1 (v := .int .u32 (k : Int)) (cs := [.int .u32 (k : Int)]) (dv := dv) (xs := zs.map encU) (n := zs.length) rt_u32 rfl rfl rfl rfl rfl rfl rfl rfl hrow6 (by omega) (by simp only [many]; omega) (fun d7 w7 hrow7 hg7 => ?_)
   have hb7 := hb6.kept hg7.grown (fun h => hno5 h.symm)
   have hit7 : w7.heap[w3.heap.size]? = some (.mapIter (some r) clock (seen.push en.born) clock) := (hg7.grown.block _ (by omega) (fun h => hne5 h.symm)).trans hit6
   obtain ⟨a7, c7, hd7⟩ := Row.shape hrow7
   refine wl_storeB rfl rfl to_u32s (by rw [hd7]; rfl) hb7 rfl (fun w8 hb8 hg8 hs8 => ?_)
   have hno7 : d7.ownBlock ≠ some w1.heap.size := by
    intro h
    obtain ⟨cur, hcur⟩ := row_block hrow7 h
    have h2 := hb7
    simp only [Box, hcur, Option.some.injEq, Obj.cells.injEq] at h2
    exact ne_u32s h2.2.1.symm
   have hrow8 := Row.kept hrow7 hg8 (.inr hno7)
   have hit8 : w8.heap[w3.heap.size]? = some (.mapIter (some r) clock (seen.push en.born) clock) := (hg8.block _ (by have := hg7.grown.size; omega) (fun h => hib (by simpa using h.symm))).trans hit7
   have hge := Row.ge hrow5
   have hc8 : Chg (fun j => w.heap.size ≤ j) w w8 := ((hc5.trans (hc6.wide (fun j hj => by have : j = w3.heap.size := hj; omega))).trans
    (⟨hg7.grown.os, hg7.grown.tape, hg7.grown.output, hg7.grown.size, fun j hj hn => hg7.grown.block j hj (fun h => hn (hge j h.symm))⟩ : Chg (fun j => w.heap.size ≤ j) w6 w7)).trans ((Chg.grown hg8).wide (fun j hj => by have : j = w1.heap.size := hj; omega))
   repeat (with_reducible first|apply wl_nil|apply qk_in)
   refine qk_round (zs ++ [(k : Int)], d7, seen.push en.born, clock) ⟨rfl, rfl, rfl, rfl, trivial⟩ ⟨hb8, ?_, hit8, Nat.le_refl _, ?_, hc8⟩ ?_
   ·simpa using hrow8
   ·refine List.Perm.trans ?_ hperm5
    simp only [List.map_append, List.map_cons, List.map_nil, List.append_assoc, List.cons_append, List.nil_append]
    refine List.Perm.append_left _ ?_
    have := (hpush.map (·.key)).symm
    simpa [hek, encU] using this
   ·have h2 := hpush.length_eq
    simp only [Array.length_toList, List.length_cons] at h2
    show (leftOf es (seen.push en.born)).size < (leftOf es seen).size
    omega
end Go.Proofs.YtlmnaffhadeolaaGreatDoor.Ea

namespace Go.Proofs.YtlmnaffhadeolaaGreatDoor
open Go Go.RowKit
section
set_option maxRecDepth 100000
def Fn (F : FuncId) (vs : List Value) (w : World) (R : Value → World → Prop) : Prop :=
 Calls Tryz.prog F vs.toArray w fun e w' => ∃ v, e = .returned v ∧ Below w.heap.size w w' ∧ R v w'
theorem fn_has (f : Fld) (ver : Int) (B : Nat) (w : World) (_hB : B ≤ w.heap.size) (cs : List Value) (hf : Rep (Lo B) w (fldD f) cs) :
  Fn 35 [.agg cs.toArray, .int .i64 ver] w fun v _ => v = .bool (f.has ver) := by
 obtain ⟨sv, rfl, _⟩ := fld_cells hf
 refine enter Tryz.func35 rfl Tryz.ntmps35 rfl ?_
 repeat (with_reducible first|apply wc_seq|apply wc_region)
 refine wl_box1 rfl rfl rfl (fun w1 hb hg hs => ?_)
 repeat first|(with_reducible first|apply wc_seq|apply wc_region|apply wl_nil|apply qk_thn)|((with_reducible apply ws);exact rfl;exact rfl)
 refine wl_loadB rfl to_int rfl hb rfl ?_
 repeat ((with_reducible apply ws);exact rfl;exact rfl)
 have hfin : Below w.heap.size w w1 := below_of hg (Nat.le_refl _) (by simp)
 by_cases h1 : f.fr ≤ ver
 ·have e1 : decide (f.fr ≤ ver) = true := by simpa using h1
  rw [e1]
  repeat first|((with_reducible apply ws);exact rfl;exact rfl)|((with_reducible apply wl_yes);exact rfl;exact rfl;exact rfl)
  refine wl_loadB rfl to_int rfl hb rfl ?_
  repeat first|((with_reducible apply ws);exact rfl;exact rfl)|((with_reducible apply wl_yes);exact rfl;exact rfl;exact rfl)
  by_cases h2 : f.upto < 0
  ·have e2 : decide (f.upto < 0) = true := by simpa using h2
   rw [e2]
   repeat first|(with_reducible first|apply wl_nil|apply qk_thn|apply wc_ret)|((with_reducible apply ws);exact rfl;exact rfl)|((with_reducible apply wl_yes);exact rfl;exact rfl;exact rfl)|((with_reducible apply wl_no);exact rfl;exact rfl;exact rfl;exact rfl)
   exact qk_ret1 rfl rfl ⟨_, rfl, hfin, by simp [Fld.has, h1, h2]⟩
  ·have e2 : decide (f.upto < 0) = false := by simpa using h2
   rw [e2]
   repeat first|((with_reducible apply ws);exact rfl;exact rfl)|((with_reducible apply wl_yes);exact rfl;exact rfl;exact rfl)
   refine wl_loadB rfl to_int rfl hb rfl ?_
   repeat first|(with_reducible first|apply wl_nil|apply qk_thn|apply wc_ret)|((with_reducible apply ws);exact rfl;exact rfl)|((with_reducible apply wl_yes);exact rfl;exact rfl;exact rfl)
   exact qk_ret1 rfl rfl ⟨_, rfl, hfin, by simp [Fld.has, h1, h2]⟩
 ·have e1 : decide (f.fr ≤ ver) = false := by simpa using h1
  rw [e1]
  repeat first|(with_reducible first|apply wl_nil|apply qk_thn|apply wc_ret)|((with_reducible apply ws);exact rfl;exact rfl)|((with_reducible apply wl_no);exact rfl;exact rfl;exact rfl;exact rfl)|((with_reducible apply wl_noU);exact rfl;exact rfl;exact rfl)
  exact qk_ret1 rfl rfl ⟨_, rfl, hfin, by simp [Fld.has, h1]⟩
theorem fn_null (f : Fld) (ver : Int) (t : Tree) (B : Nat) (w : World) (_hB : B ≤ w.heap.size) (cs ts : List Value) (hf : Rep (Lo B) w (fldD f) cs) (ht : Rep (Lo B) w (treeD t) ts) :
  Fn 70 [.agg cs.toArray, .int .i64 ver, .agg ts.toArray] w fun v _ => v = .bool (f.null ver t) := by
 obtain ⟨sv, rfl, _⟩ := fld_cells hf
 obtain ⟨sv2, lv, uv, rfl, _, _, _⟩ := tree_cells ht
 refine enter Tryz.func70 rfl Tryz.ntmps70 rfl ?_
 repeat (with_reducible first|apply wc_seq|apply wc_region)
 refine wl_box1 rfl rfl rfl (fun w1 hb1 hg1 hs1 => wl_box1 rfl rfl rfl (fun w2 hb2 hg2 hs2 => ?_))
 have hb := hb1.kept hg2 (by simp)
 have hfin : Below w.heap.size w w2 := (below_of hg1 (Nat.le_refl _) (by simp)).trans (below_of hg2 (by omega) (by simp))
 repeat first|(with_reducible first|apply wc_seq|apply wc_region|apply wl_nil|apply qk_thn)|((with_reducible apply ws);exact rfl;exact rfl)
 refine wl_loadB rfl to_bool rfl hb2 rfl ?_
 repeat ((with_reducible apply ws);exact rfl;exact rfl)
 cases hn : t.nul
 ·repeat first|(with_reducible first|apply wl_nil|apply qk_thn|apply wc_ret)|((with_reducible apply ws);exact rfl;exact rfl)|((with_reducible apply wl_no);exact rfl;exact rfl;exact rfl;exact rfl)
  exact qk_ret1 rfl rfl ⟨_, rfl, hfin, by simp [Fld.null, hn]⟩
 ·repeat first|((with_reducible apply ws);exact rfl;exact rfl)|((with_reducible apply wl_yes);exact rfl;exact rfl;exact rfl)
  refine wl_loadB rfl to_int rfl hb rfl ?_
  repeat first|((with_reducible apply ws);exact rfl;exact rfl)|((with_reducible apply wl_yes);exact rfl;exact rfl;exact rfl)
  by_cases h1 : 0 ≤ f.nul
  ·have e1 : decide (0 ≤ f.nul) = true := by simpa using h1
   rw [e1]
   repeat first|((with_reducible apply ws);exact rfl;exact rfl)|((with_reducible apply wl_yes);exact rfl;exact rfl;exact rfl)
   refine wl_loadB rfl to_int rfl hb rfl ?_
   repeat first|(with_reducible first|apply wl_nil|apply qk_thn|apply wc_ret)|((with_reducible apply ws);exact rfl;exact rfl)|((with_reducible apply wl_yes);exact rfl;exact rfl;exact rfl)
   exact qk_ret1 rfl rfl ⟨_, rfl, hfin, by simp [Fld.null, hn, h1]⟩
  ·have e1 : decide (0 ≤ f.nul) = false := by simpa using h1
   rw [e1]
   repeat first|(with_reducible first|apply wl_nil|apply qk_thn|apply wc_ret)|((with_reducible apply ws);exact rfl;exact rfl)|((with_reducible apply wl_no);exact rfl;exact rfl;exact rfl;exact rfl)
   exact qk_ret1 rfl rfl ⟨_, rfl, hfin, by simp [Fld.null, hn, h1]⟩
theorem fn_at (t : Tree) (i : Nat) (B : Nat) (w : World) (hB : B ≤ w.heap.size) (ts : List Value) (ht : Rep (Lo B) w (treeD t) ts) :
  Fn 34 [.agg ts.toArray, .int .i64 (i : Int)] w fun v w' => ∃ cs : List Value, v = .agg cs.toArray ∧ Rep (Lo B) w' (treeD (att t i)) cs := by
 obtain ⟨sv2, lv, uv, rfl, _, hl, _⟩ := tree_cells ht
 obtain ⟨la, lc, rfl, _⟩ := hl.shape
 refine enter Tryz.func34 rfl Tryz.ntmps34 rfl ?_
 repeat (with_reducible first|apply wc_seq|apply wc_region)
 refine wl_box1 rfl rfl rfl (fun w1 hb1 hg1 hs1 => wl_alloc zv_tree rfl rfl (fun w2 hb2 hg2 hs2 => ?_))
 have hb := hb1.kept hg2 (by simp)
 have hw2 : Below w.heap.size w w2 := (below_of hg1 (Nat.le_refl _) (by simp)).trans (below_of hg2 (by omega) (by simp))
 repeat first|(with_reducible first|apply wc_seq|apply wc_region|apply wl_nil|apply qk_thn)|((with_reducible apply ws);exact rfl;exact rfl)
 refine wl_loadB rfl to_trees rfl hb rfl ?_
 repeat first|(with_reducible first|apply wl_nil|apply qk_thn)|((with_reducible apply ws);exact rfl;exact rfl)
 by_cases h : i < t.l.length
 ·refine wc_yes rfl (by simpa using h) ?_
  have hl2 := hl.below (hw2.mono hB) (Nat.le_refl _)
  obtain ⟨b, off, c, cs, hv, hbB, hcs, hlen, hr⟩ := hl2.get (sz := 5) (i := i) (by intro d hd; obtain ⟨x, _, rfl⟩ := List.mem_map.1 hd; exact treeD_width x) (by simpa using h)
  simp only [Value.slice.injEq, List.length_map] at hv
  obtain ⟨rfl, _, rfl⟩ := hv
  simp only [List.getElem_map] at hr
  repeat first|(with_reducible first|apply wc_seq|apply wc_region)|((with_reducible apply ws);exact rfl;exact rfl)
  refine wl_loadB rfl to_trees rfl hb rfl ?_
  repeat ((with_reducible apply ws);exact rfl;exact rfl)
  refine wl_indexAddr rfl rfl es_trees rfl (by simpa using h) ?_
  refine wl_loadAgg rfl (by rw [hlen]; exact ta_tree) rfl (fun j v e => hcs.cell e) ?_
  obtain ⟨hone, hlen5⟩ := tree_one hr
  refine wl_storeBAgg rfl rfl rfl (by rw [hlen5]; exact tz_tree) hone hb2 (by rw [hlen5]; rfl) (fun w3 hb3 hg3 hs3 => ?_)
  repeat (with_reducible first|apply wl_nil|apply qk_thn|apply wc_ret|apply qk_thn_ret)
  have hw3 : Below w.heap.size w w3 := hw2.trans (below_of hg3 (by omega) (by intro k hk; simp at hk; omega))
  refine qk_retCell rfl rfl (by rw [hlen5]; exact ta_tree) hb3 ⟨_, rfl, hw3, cs, rfl, ?_⟩
  have : att t i = t.l[i] := by simp [att, h]
  rw [this]
  exact hr.below (below_of hg3 (by omega) (by intro k hk; simp at hk; omega)) (Nat.le_refl _)
 ·refine wc_no rfl (by simpa using h) ?_
  repeat (with_reducible first|apply wc_seq|apply wc_region|apply qk_thn|apply wc_skip)
  refine wl_build rfl (cs := [.int .i64 0, .slice none 0 0, .bool false, .slice none 0 0, .slice none 0 0]) (by kernel_rfl) rfl ?_
  refine wl_storeBAgg rfl rfl rfl tz_tree rfl hb2 rfl (fun w3 hb3 hg3 hs3 => ?_)
  repeat (with_reducible first|apply wl_nil|apply qk_thn|apply wc_ret)
  have hw3 : Below w.heap.size w w3 := hw2.trans (below_of hg3 (by omega) (by intro k hk; simp at hk; omega))
  refine qk_retCell (cs := [.int .i64 0, .slice none 0 0, .bool false, .slice none 0 0, .slice none 0 0]) rfl rfl ta_tree hb3 ⟨_, rfl, hw3, _, rfl, ?_⟩
  have : att t i = Tree.none := by simp [att, List.getD, List.getElem?_eq_none (by omega : t.l.length ≤ i)]
  rw [this]
  exact tree_none _ _
theorem take_min {α : Type} (l : List α) (n : Nat) : l.take (min l.length n) = l.take n := by
 by_cases h : n ≤ l.length
 ·rw [Nat.min_eq_right h]
 ·rw [Nat.min_eq_left (by omega), List.take_of_length_le (by omega), List.take_of_length_le (by omega)]
theorem min_if (n : Nat) : (if (32767 : Int) < (n : Int) then (32767 : Int) else (n : Int)) = ((min n Most : Nat) : Int) := by
 unfold Most
 split <;> omega
theorem fn_whole (v : Value) (ds : List D) (B : Nat) (w : World) (h : Sq B w v ds) : Fn 40 [v] w fun v' w' => w' = w ∧ Sq B w v' (ds.take Most) := by
 obtain ⟨a, c, rfl, hc⟩ := h.shape
 refine enter Tryz.func40 rfl Tryz.ntmps40 rfl ?_
 repeat first|(with_reducible first|apply wc_seq|apply wc_region|apply wl_nil|apply qk_thn)|((with_reducible apply ws);exact rfl;exact rfl)
 refine wl_min rfl rfl rfl (min_if ds.length) ?_
 refine wl_sliceHi rfl rfl el_bytes rfl (by omega) ?_
 repeat first|(with_reducible first|apply wl_nil|apply qk_thn|apply wc_ret)|((with_reducible apply ws);exact rfl;exact rfl)
 exact qk_ret1 rfl rfl ⟨_, rfl, Below.refl _ _, rfl, by rw [← take_min ds Most]; exact h.take (by omega)⟩
theorem fn_things (v : Value) (ds : List D) (B : Nat) (w : World) (h : Sq B w v ds) : Fn 71 [v] w fun v' w' => w' = w ∧ Sq B w v' (ds.take Most) := by
 obtain ⟨a, c, rfl, hc⟩ := h.shape
 refine enter Tryz.func71 rfl Tryz.ntmps71 rfl ?_
 repeat first|(with_reducible first|apply wc_seq|apply wc_region|apply wl_nil|apply qk_thn)|((with_reducible apply ws);exact rfl;exact rfl)
 refine wl_min rfl rfl rfl (min_if ds.length) ?_
 refine wl_sliceHi rfl rfl el_trees rfl (by omega) ?_
 repeat first|(with_reducible first|apply wl_nil|apply qk_thn|apply wc_ret)|((with_reducible apply ws);exact rfl;exact rfl)
 exact qk_ret1 rfl rfl ⟨_, rfl, Below.refl _ _, rfl, by rw [← take_min ds Most]; exact h.take (by omega)⟩
theorem fn_width (k : Int) (w : World) : Fn 69 [.int .i64 k] w fun v' w' => w' = w ∧ v' = .int .i64 (width k : Nat) := by
 refine enter Tryz.func69 rfl Tryz.ntmps69 rfl ?_
 repeat first|(with_reducible first|apply wc_seq|apply wc_region|apply wl_nil|apply qk_thn|apply wc_block)|((with_reducible apply ws);exact rfl;exact rfl)
 by_cases h1 : k = 1
 ·subst h1
  refine wc_yes rfl (by decide) ?_
  repeat first|(with_reducible first|apply wc_seq|apply wc_region|apply wl_nil|apply qk_thn|apply wc_ret|apply qk_thn_ret|apply qk_in_ret)|((with_reducible apply ws);exact rfl;exact rfl)
  exact qk_ret1 rfl rfl ⟨_, rfl, Below.refl _ _, rfl, rfl⟩
 ·refine wc_no rfl (by simpa using h1) ?_
  repeat first|(with_reducible first|apply wc_seq|apply wc_region|apply wl_nil|apply qk_thn)|((with_reducible apply ws);exact rfl;exact rfl)
  by_cases h2 : k = 2
  ·subst h2
   refine wc_yes rfl (by decide) ?_
   repeat (with_reducible first|apply qk_thn|apply wc_skip)
   refine wc_yes rfl (by decide) ?_
   repeat first|(with_reducible first|apply wc_seq|apply wc_region|apply wl_nil|apply qk_thn|apply wc_ret|apply qk_thn_ret|apply qk_in_ret)|((with_reducible apply ws);exact rfl;exact rfl)
   exact qk_ret1 rfl rfl ⟨_, rfl, Below.refl _ _, rfl, rfl⟩
  ·refine wc_no rfl (by simpa using h2) ?_
   repeat first|(with_reducible first|apply wc_region|apply wl_nil|apply qk_thn)|((with_reducible apply ws);exact rfl;exact rfl)
   by_cases h5 : k = 5
   ·subst h5
    refine wc_yes rfl (by decide) ?_
    repeat first|(with_reducible first|apply wc_seq|apply wc_region|apply wl_nil|apply qk_thn|apply wc_ret|apply qk_thn_ret|apply qk_in_ret)|((with_reducible apply ws);exact rfl;exact rfl)
    exact qk_ret1 rfl rfl ⟨_, rfl, Below.refl _ _, rfl, rfl⟩
   ·refine wc_no rfl (by simpa using h5) ?_
    repeat first|(with_reducible first|apply wc_seq|apply wc_region|apply wl_nil|apply qk_thn)|((with_reducible apply ws);exact rfl;exact rfl)
    by_cases h3 : k = 3
    ·subst h3
     refine wc_yes rfl (by decide) ?_
     repeat first|(with_reducible first|apply wc_seq|apply wc_region|apply wl_nil|apply qk_thn|apply wc_ret|apply qk_thn_ret|apply qk_in_ret)|((with_reducible apply ws);exact rfl;exact rfl)
     exact qk_ret1 rfl rfl ⟨_, rfl, Below.refl _ _, rfl, rfl⟩
    ·refine wc_no rfl (by simpa using h3) ?_
     repeat first|(with_reducible first|apply wc_seq|apply wc_region|apply wl_nil|apply qk_thn|apply wc_skip|apply wc_ret|apply qk_in)|((with_reducible apply ws);exact rfl;exact rfl)
     exact qk_ret1 rfl rfl ⟨_, rfl, Below.refl _ _, rfl, by simp [width, h1, h2, h5, h3]⟩
structure FxS where
 k : Nat
 d : Value
 xs : List UInt8
theorem fn_fixed (n : Int) (size : Nat) (hs : size ≤ 8) (w : World) : Fn 33 [.int .i64 n, .int .i64 (size : Int)] w fun v w' => Own w' w.heap.size 5 v (be size n) := by
 refine enter Tryz.func33 rfl Tryz.ntmps33 rfl ?_
 repeat first|(with_reducible first|apply wc_seq|apply wc_region|apply wl_nil|apply qk_thn)|((with_reducible apply ws);exact rfl;exact rfl)
 refine wl_sub' rfl rfl rfl (r := (size : Int) - 1) (by rw [IntKind.wrap_i64]; omega) ?_
 repeat first|(with_reducible first|apply wl_nil|apply qk_thn|apply wc_block)|((with_reducible apply ws);exact rfl;exact rfl)
 refine wc_loop (α := FxS) (fun x => [(6, .int .i64 ((x.k : Int) - 1)), (5, x.d), (0, .int .i64 n)]) (fun x w' => x.k ≤ size ∧ x.xs ++ be x.k n = be size n ∧ Own w' w.heap.size 5 x.d x.xs ∧ Below w.heap.size w w') (fun x => x.k) ⟨size, .slice none 0 0, []⟩ ⟨rfl, rfl, rfl, trivial⟩ ⟨Nat.le_refl _, rfl, Own.nil _ _ _, Below.refl _ _⟩ ?_
 rintro ⟨k, d, xs⟩ w1 ⟨hk, hx, ho, hb⟩
 simp only [] at hk hx ho
 change WC _ _ _ _ [(6, .int .i64 ((k : Int) - 1)), (5, d), (0, .int .i64 n)] _
 repeat first|(with_reducible first|apply wc_seq|apply wc_region|apply wl_nil|apply qk_thn)|((with_reducible apply ws);exact rfl;exact rfl)
 cases k with
 | zero =>
  refine wc_no rfl (by decide) ?_
  repeat first|(with_reducible first|apply wc_seq|apply wc_region|apply wl_nil|apply qk_thn|apply wc_ret|apply wc_exit|apply qk_thn_exit|apply qk_in_exit|apply qk_round_exit)|((with_reducible apply ws);exact rfl;exact rfl)
  simp only [be, List.append_nil] at hx
  exact qk_ret1 rfl rfl ⟨_, rfl, hb, hx ▸ ho⟩
 | succ k =>
  refine wc_yes rfl (by simp) ?_
  repeat first|(with_reducible first|apply wc_seq|apply wc_region|apply qk_thn|apply wc_block|apply wc_skip)|((with_reducible apply ws);exact rfl;exact rfl)
  refine wl_mul rfl rfl rfl (r := ((8 * k : Nat) : Int)) (by rw [IntKind.wrap_i64]; omega) ?_
  refine wl_shrV rfl rfl rfl (by omega) (r := n / (2 ^ (8 * k) : Nat)) ?_ ?_
  ·rw [show min ((8 * k : Nat) : Int).toNat IntKind.i64.bits = 8 * k from by simp [IntKind.bits]; omega, Int.fdiv_eq_ediv_of_nonneg _ (by exact_mod_cast Nat.zero_le _)]
   push_cast; rfl
  refine wl_conv .u8 rfl ti_l64 ti_u8 rfl (wrap_u8 _) ?_
  refine wl_appLit tb_bytes rfl (ys := [lowByte (n / (2 ^ (8 * k) : Nat))]) rfl rfl rfl rfl rfl rfl ho hb.size ?_ (fun d' w2 ho2 hg2 => ?_)
  ·have := congrArg List.length hx
   simp only [List.length_append, be_length] at this
   simp only [List.length_cons, List.length_nil, lim]
   omega
  repeat first|(with_reducible first|apply wc_region|apply wl_nil|apply qk_thn|apply qk_in)|((with_reducible apply ws);exact rfl;exact rfl)
  refine wl_sub' rfl rfl rfl (r := (k : Int) - 1) (by rw [IntKind.wrap_i64]; omega) ?_
  repeat first|(with_reducible apply wl_nil)|((with_reducible apply ws);exact rfl;exact rfl)
  refine qk_round ⟨k, d', xs ++ [lowByte (n / (2 ^ (8 * k) : Nat))]⟩ ⟨rfl, rfl, rfl, trivial⟩ ⟨by simp only []; omega, ?_, ho2, hb.trans (hg2.below hb.size ho.ge)⟩ (by simp)
  simp only [List.append_assoc]
  rw [← hx]; rfl
theorem uvar_pos (n : Nat) : 1 ≤ (uvar n).length := by rw [uvar]; split <;> simp
theorem uvar_len_le : ∀ (k n : Nat), n < 2 ^ (7 * k) → (uvar n).length ≤ k + 1
 | 0, n, h => by rw [uvar_lt (by simpa using (by omega : n < 128))]; simp
 | k + 1, n, h => by
  by_cases h1 : n < 128
  ·rw [uvar_lt h1]; simp
  ·rw [uvar_ge (by omega)]
   have := uvar_len_le k (n / 128) (by
    rw [show 7 * (k + 1) = 7 * k + 7 from by omega, Nat.pow_add] at h
    exact Nat.div_lt_of_lt_mul (by rw [Nat.mul_comm]; exact h))
   simp only [List.length_cons]; omega
structure UvS where
 m : Nat
 d : Value
 xs : List UInt8
theorem fn_uvarint (n : Nat) (hn : n < 18446744073709551616) (w : World) : Fn 81 [.int .u64 (n : Int)] w fun v w' => Own w' w.heap.size 5 v (uvar n) := by
 have hlen : (uvar n).length ≤ 11 := uvar_len_le 10 n (Nat.lt_of_lt_of_le hn (by decide))
 refine enter Tryz.func81 rfl Tryz.ntmps81 rfl ?_
 repeat first|(with_reducible first|apply wc_seq|apply wc_region|apply wl_nil|apply qk_thn|apply wc_block)|((with_reducible apply ws);exact rfl;exact rfl)
 refine wc_loop (α := UvS) (fun x => [(0, .int .u64 (x.m : Int)), (3, x.d)]) (fun x w' => x.m ≤ n ∧ x.xs ++ uvar x.m = uvar n ∧ Own w' w.heap.size 5 x.d x.xs ∧ Below w.heap.size w w') (fun x => x.m) ⟨n, .slice none 0 0, []⟩ ⟨rfl, rfl, trivial⟩ ⟨Nat.le_refl _, rfl, Own.nil _ _ _, Below.refl _ _⟩ ?_
 rintro ⟨m, d, xs⟩ w1 ⟨hm, hx, ho, hb⟩
 simp only [] at hm hx ho
 change WC _ _ _ _ [(0, .int .u64 (m : Int)), (3, d)] _
 have hl := congrArg List.length hx
 simp only [List.length_append] at hl
 have := uvar_pos m
 repeat first|(with_reducible first|apply wc_seq|apply wc_region|apply wl_nil|apply qk_thn)|((with_reducible apply ws);exact rfl;exact rfl)
 by_cases h : m < 128
 ·refine wc_no rfl (by simp; omega) ?_
  repeat first|(with_reducible first|apply wc_seq|apply wc_region|apply qk_thn|apply wc_exit|apply qk_thn_exit|apply qk_in_exit|apply qk_round_exit)|((with_reducible apply ws);exact rfl;exact rfl)
  refine wl_conv .u8 rfl ti_u64 ti_u8 rfl (r := ((UInt8.ofNat m).toNat : Int)) (by rw [byteNat m (by omega), IntKind.wrap_u8]; omega) ?_
  refine wl_appLit tb_bytes rfl (ys := [UInt8.ofNat m]) rfl rfl rfl rfl rfl rfl ho hb.size (by simp only [List.length_cons, List.length_nil, lim]; omega) (fun d' w2 ho2 hg2 => ?_)
  repeat first|(with_reducible first|apply wl_nil|apply qk_thn|apply wc_ret)|((with_reducible apply ws);exact rfl;exact rfl)
  rw [uvar_lt h] at hx
  exact qk_ret1 rfl rfl ⟨_, rfl, hb.trans (hg2.below hb.size ho.ge), hx ▸ ho2⟩
 ·refine wc_yes rfl (by simp; omega) ?_
  repeat first|(with_reducible first|apply wc_seq|apply wc_region|apply qk_thn|apply wc_block|apply wc_skip)|((with_reducible apply ws);exact rfl;exact rfl)
  refine wl_and rfl rfl rfl (and127w m (by omega)) ?_
  refine wl_conv .u8 rfl ti_u64 ti_u8 rfl (r := ((m % 128 : Nat) : Int)) (by rw [IntKind.wrap_u8]; omega) ?_
  refine wl_or rfl rfl rfl (r := ((UInt8.ofNat (m % 128 + 128)).toNat : Int)) (by rw [or128b _ (by omega), byteNat _ (by omega)]) ?_
  refine wl_appLit tb_bytes rfl (ys := [UInt8.ofNat (m % 128 + 128)]) rfl rfl rfl rfl rfl rfl ho hb.size (by simp only [List.length_cons, List.length_nil, lim]; omega) (fun d' w2 ho2 hg2 => ?_)
  repeat first|(with_reducible first|apply wc_region|apply wl_nil|apply qk_thn)|((with_reducible apply ws);exact rfl;exact rfl)
  refine wl_shr rfl rfl rfl (r := ((m / 128 : Nat) : Int)) (shr_nat m 7 64 (by omega)) ?_
  repeat first|(with_reducible first|apply wl_nil|apply qk_in)|((with_reducible apply ws);exact rfl;exact rfl)
  refine qk_round ⟨m / 128, d', xs ++ [UInt8.ofNat (m % 128 + 128)]⟩ ⟨rfl, rfl, trivial⟩ ⟨by simp only []; omega, ?_, ho2, hb.trans (hg2.below hb.size ho.ge)⟩ (by simp only []; omega)
  simp only [List.append_assoc]
  rw [← hx, uvar_ge (n := m) (by omega)]; rfl
theorem fn_counted (flex null : Bool) (n size : Nat) (hn : n < 9223372036854775807) (hs : size ≤ 8) (w : World) :
  Fn 131 [.bool flex, .bool null, .int .i64 (n : Int), .int .i64 (size : Int)] w fun v w' => Own w' w.heap.size 5 v (counted flex null n size) := by
 refine enter Tryz.func131 rfl Tryz.ntmps131 rfl ?_
 repeat first|(with_reducible first|apply wc_seq|apply wc_region|apply wl_nil|apply qk_thn|apply wc_block)|((with_reducible apply ws);exact rfl;exact rfl)
 cases flex
 ·repeat first|(with_reducible first|apply wl_nil|apply qk_thn)|((with_reducible apply ws);exact rfl;exact rfl)|((with_reducible apply wl_no);exact rfl;exact rfl;exact rfl;exact rfl)
  refine wc_no rfl rfl ?_
  repeat first|(with_reducible first|apply wc_seq|apply wc_region|apply wl_nil|apply qk_thn)|((with_reducible apply ws);exact rfl;exact rfl)
  refine wc_no rfl rfl ?_
  repeat first|(with_reducible first|apply wc_seq|apply wc_region|apply wl_nil|apply qk_thn)|((with_reducible apply ws);exact rfl;exact rfl)
  cases null
  ·refine wc_no rfl rfl ?_
   repeat first|(with_reducible first|apply wc_seq|apply wc_region|apply qk_thn|apply wc_skip|apply qk_in)|((with_reducible apply ws);exact rfl;exact rfl)
   refine wl_call rfl (by kernel_rfl) rfl ((fn_fixed n size hs w).mono ?_)
   rintro e w' ⟨v, rfl, hb, ho⟩
   refine ⟨v, rfl, ?_⟩
   repeat first|(with_reducible first|apply wl_nil|apply qk_thn|apply wc_ret)|((with_reducible apply ws);exact rfl;exact rfl)
   exact qk_ret1 rfl rfl ⟨_, rfl, hb, by simpa [counted] using ho⟩
  ·refine wc_yes rfl rfl ?_
   repeat first|(with_reducible first|apply wc_seq|apply wc_region)|((with_reducible apply ws);exact rfl;exact rfl)
   refine wl_call rfl (by kernel_rfl) rfl ((fn_fixed (-1) size hs w).mono ?_)
   rintro e w' ⟨v, rfl, hb, ho⟩
   refine ⟨v, rfl, ?_⟩
   repeat first|(with_reducible first|apply wl_nil|apply qk_thn|apply wc_ret|apply qk_thn_ret|apply qk_in_ret)|((with_reducible apply ws);exact rfl;exact rfl)
   exact qk_ret1 rfl rfl ⟨_, rfl, hb, by simpa [counted] using ho⟩
 ·repeat first|(with_reducible first|apply wl_nil|apply qk_thn)|((with_reducible apply ws);exact rfl;exact rfl)|((with_reducible apply wl_yes);exact rfl;exact rfl;exact rfl)
  cases null
  ·refine wc_no rfl rfl ?_
   repeat first|(with_reducible first|apply wc_seq|apply wc_region|apply wl_nil|apply qk_thn)|((with_reducible apply ws);exact rfl;exact rfl)
   refine wc_yes rfl rfl ?_
   repeat first|(with_reducible first|apply wc_seq|apply wc_region)|((with_reducible apply ws);exact rfl;exact rfl)
   refine wl_conv .u64 rfl ti_i64 ti_u64 rfl (r := (n : Int)) (by rw [IntKind.wrap_u64]; omega) ?_
   refine wl_add rfl rfl rfl (r := ((n + 1 : Nat) : Int)) (by rw [IntKind.wrap_u64]; omega) ?_
   refine wl_call rfl (by kernel_rfl) rfl ((fn_uvarint (n + 1) (by omega) w).mono ?_)
   rintro e w' ⟨v, rfl, hb, ho⟩
   refine ⟨v, rfl, ?_⟩
   repeat first|(with_reducible first|apply wl_nil|apply qk_thn|apply wc_ret|apply qk_thn_ret|apply qk_in_ret)|((with_reducible apply ws);exact rfl;exact rfl)
   exact qk_ret1 rfl rfl ⟨_, rfl, hb, by simpa [counted] using ho⟩
  ·refine wc_yes rfl rfl ?_
   repeat (with_reducible first|apply wc_seq|apply wc_region)
   refine wl_lit tb_bytes rfl (ys := [0]) rfl rfl rfl rfl (fun w1 ho hb => ?_)
   repeat first|(with_reducible first|apply wl_nil|apply qk_thn|apply wc_ret|apply qk_thn_ret|apply qk_in_ret)|((with_reducible apply ws);exact rfl;exact rfl)
   exact qk_ret1 rfl rfl ⟨_, rfl, hb, by simpa [counted] using ho⟩
end
end Go.Proofs.YtlmnaffhadeolaaGreatDoor

namespace Go.Proofs.YtlmnaffhadeolaaGreatDoor
open Go Go.RowKit
theorem BytesAt.below {w w' : World} {v : Value} {ys : List UInt8} (h : BytesAt w v ys) (hb : Below w.heap.size w w') : BytesAt w' v ys := by
 rcases h with ⟨a, c, rfl, rfl⟩ | ⟨b, off, c, rfl, hc⟩
 ·exact .inl ⟨a, c, rfl, rfl⟩
 ·exact .inr ⟨b, off, c, rfl, hc.of_block (hb.block b hc.lt)⟩
theorem BytesAt.get {w : World} {v : Value} {ys : List UInt8} (h : BytesAt w v ys) {i : Nat} (hi : i < ys.length) : ∃ b off c, v = .slice (some ⟨b, off, none⟩) ys.length c ∧ w.cell? ⟨b, off + i * 1, none⟩ = some (.int .u8 (ys[i].toNat : Int)) := by
 rcases h with ⟨a, c, rfl, rfl⟩ | ⟨b, off, c, rfl, hc⟩
 ·simp at hi
 ·refine ⟨b, off, c, rfl, ?_⟩
  rw [Nat.mul_one]
  exact hc.cell (by simp [bv, hi])
theorem take_ne {xs ys : List UInt8} {i : Nat} (hx : i < xs.length) (hy : i < ys.length) (h : xs[i] ≠ ys[i]) : (xs == ys) = false := by
 rw [beq_eq_false_iff_ne]
 rintro rfl
 exact h rfl
theorem u8_ne {a b : UInt8} : ((a.toNat : Int) != (b.toNat : Int)) = (a != b) := by
 rw [Bool.eq_iff_iff]
 simp only [bne_iff_ne, ne_eq]
 rw [Int.ofNat_inj, UInt8.toNat_inj]
section
set_option maxRecDepth 100000
theorem fn_same (va vb : Value) (xs ys : List UInt8) (w : World) (ha : BytesAt w va xs) (hb : BytesAt w vb ys) (hx : xs.length ≤ lim) (hy : ys.length ≤ lim) :
  Fn 23 [va, vb] w fun v _ => v = .bool (xs == ys) := by
 simp only [lim] at hx hy
 obtain ⟨aa, ca, hva⟩ := ha.shape
 obtain ⟨ab, cb, hvb⟩ := hb.shape
 subst hva; subst hvb
 refine enter Tryz.func23 rfl Tryz.ntmps23 rfl ?_
 repeat first|(with_reducible first|apply wc_seq|apply wc_region|apply wl_nil|apply qk_thn)|((with_reducible apply ws);exact rfl;exact rfl)
 by_cases hl : xs.length = ys.length
 ·refine wc_no rfl (by simp [hl]) ?_
  repeat first|(with_reducible first|apply wc_seq|apply wc_region|apply wl_nil|apply qk_thn|apply wc_block|apply wc_skip)|((with_reducible apply ws);exact rfl;exact rfl)
  refine wc_loop (α := Nat) (fun i => [(13, .int .i64 (i : Int)), (12, .int .i64 (xs.length : Int)), (0, .slice aa xs.length ca), (1, .slice ab ys.length cb)]) (fun i w' => i ≤ xs.length ∧ xs.take i = ys.take i ∧ Below w.heap.size w w') (fun i => xs.length - i) 0 ⟨rfl, rfl, rfl, rfl, trivial⟩ ⟨by omega, rfl, Below.refl _ _⟩ ?_
  rintro i w1 ⟨hi, ht, hw⟩
  repeat first|(with_reducible first|apply wc_seq|apply wc_region|apply wl_nil|apply qk_thn)|((with_reducible apply ws);exact rfl;exact rfl)
  by_cases hlt : i < xs.length
  ·refine wc_yes rfl (by simpa using hlt) ?_
   repeat first|(with_reducible first|apply wc_seq|apply wc_region|apply wl_nil|apply qk_thn|apply wc_block|apply wc_skip)|((with_reducible apply ws);exact rfl;exact rfl)
   obtain ⟨b1, o1, c1, hv1, hc1⟩ := (ha.below hw).get hlt
   obtain ⟨b2, o2, c2, hv2, hc2⟩ := (hb.below hw).get (i := i) (by omega)
   simp only [Value.slice.injEq] at hv1 hv2
   obtain ⟨rfl, _, rfl⟩ := hv1
   obtain ⟨rfl, _, rfl⟩ := hv2
   refine wc_par [(0, .slice (some ⟨b1, o1, none⟩) xs.length ca), (1, .int .i64 (i : Int)), (2, .pointer (some ⟨b1, o1 + i * 1, none⟩)), (3, .int .u8 (xs[i].toNat : Int)), (4, .slice (some ⟨b2, o2, none⟩) ys.length cb), (5, .int .i64 (i : Int)), (6, .pointer (some ⟨b2, o2 + i * 1, none⟩)), (7, .int .u8 (ys[i].toNat : Int)), (8, .bool ((xs[i].toNat : Int) != (ys[i].toNat : Int)))] []
    (fun _ w' => Below w.heap.size w w' ∧ w'.cell? ⟨b1, o1 + i * 1, none⟩ = some (.int .u8 (xs[i].toNat : Int)) ∧ w'.cell? ⟨b2, o2 + i * 1, none⟩ = some (.int .u8 (ys[i].toNat : Int)))
    mixed rfl rfl rfl rfl rfl (by show ([0,1,2,3,4,5,6,7,8] : List Nat).Nodup; decide) rfl rfl (by decide) rfl rfl rfl rfl ⟨hw.drew, hc1, hc2⟩ ?_ trivial ?_
   ·intro p hp vals w' hC a k
    simp only [List.mem_cons, List.not_mem_nil, or_false] at hp
    rcases hp with rfl | rfl | rfl | rfl | rfl | rfl | rfl | rfl | rfl
    ·exact gv rfl rfl (rn_move k rfl)
    ·exact gv rfl rfl (rn_move k rfl)
    ·exact gv rfl rfl (rn_indexAddr k rfl rfl es_bytes hlt)
    ·exact gv rfl rfl (rn_load k rfl to_u8 hC.2.1)
    ·exact gv rfl rfl (rn_move k rfl)
    ·exact gv rfl rfl (rn_move k rfl)
    ·exact gv rfl rfl (rn_indexAddr k rfl rfl es_bytes (by omega))
    ·exact gv rfl rfl (rn_load k rfl to_u8 hC.2.2)
    ·exact gv rfl rfl (rn_neq k rfl rfl)
   ·rintro vals w' hvl ⟨hw', _, _⟩
    refine qk_thn ?_
    by_cases hne : xs[i] = ys[i]
    ·refine wc_no rfl (by rw [hne]; simp) ?_
     repeat (with_reducible first|apply wc_region|apply qk_thn|apply wc_skip|apply qk_in)
     refine wl_add rfl rfl rfl (r := ((i + 1 : Nat) : Int)) (by rw [IntKind.wrap_i64]; omega) ?_
     repeat first|(with_reducible apply wl_nil)|((with_reducible apply ws);exact rfl;exact rfl)
     refine qk_round (i + 1) ⟨rfl, rfl, rfl, rfl, trivial⟩ ⟨by omega, ?_, hw'⟩ (by omega)
     rw [List.take_succ_eq_append_getElem hlt, List.take_succ_eq_append_getElem (by omega), ht, hne]
    ·refine wc_yes rfl (by rw [u8_ne]; simpa using hne) ?_
     repeat first|(with_reducible first|apply wc_seq|apply wc_region|apply wl_nil|apply qk_thn|apply wc_ret|apply qk_thn_ret|apply qk_in_ret|apply qk_round_ret)|((with_reducible apply ws);exact rfl;exact rfl)
     exact qk_ret1 rfl rfl ⟨_, rfl, hw', by rw [take_ne hlt (by omega) hne]⟩
  ·refine wc_no rfl (by simpa using hlt) ?_
   repeat first|(with_reducible first|apply wc_seq|apply wc_region|apply wl_nil|apply qk_thn|apply wc_ret|apply wc_exit|apply qk_thn_exit|apply qk_in_exit|apply qk_round_exit)|((with_reducible apply ws);exact rfl;exact rfl)
   refine qk_ret1 rfl rfl ⟨_, rfl, hw, ?_⟩
   rw [List.take_of_length_le (by omega), List.take_of_length_le (by omega)] at ht
   simp [ht]
 ·refine wc_yes rfl (by simp; omega) ?_
  repeat first|(with_reducible first|apply wc_seq|apply wc_region|apply wl_nil|apply qk_thn|apply wc_ret|apply qk_thn_ret)|((with_reducible apply ws);exact rfl;exact rfl)
  refine qk_ret1 rfl rfl ⟨_, rfl, Below.refl _ _, ?_⟩
  have : (xs == ys) = false := by rw [beq_eq_false_iff_ne]; rintro rfl; exact hl rfl
  rw [this]
theorem known_snoc (fs : List Fld) (f : Fld) : known (fs ++ [f]) = if 0 ≤ f.tag then max (known fs) (f.tag.toNat + 1) else known fs := by simp [known]
theorem known_le {fs : List Fld} (h : ∀ f ∈ fs, f.tag < 2147483647) : known fs < 2147483648 := by
 have : ∀ (fs : List Fld) (m : Nat), m < 2147483648 → (∀ f ∈ fs, f.tag < 2147483647) → fs.foldl (fun n f => if 0 ≤ f.tag then max n (f.tag.toNat + 1) else n) m < 2147483648 := by
  intro fs
  induction fs with
  | nil => intro m hm _; simpa using hm
  | cons f fs ih =>
   intro m hm h
   simp only [List.foldl_cons]
   refine ih _ ?_ (fun g hg => h g (by simp [hg]))
   have := h f (by simp)
   split <;> omega
 exact this fs 0 (by omega) h
theorem fn_known (v : Value) (fs : List Fld) (B : Nat) (w : World) (hB : B ≤ w.heap.size) (h : Sq B w v (fs.map fldD)) (ht : ∀ f ∈ fs, f.tag < 2147483647) (hl : fs.length ≤ 1000000) :
  Fn 72 [v] w fun r _ => r = .int .u32 (known fs : Nat) := by
 obtain ⟨a, c, rfl, _⟩ := h.shape
 simp only [List.length_map] at *
 refine enter Tryz.func72 rfl Tryz.ntmps72 rfl ?_
 repeat first|(with_reducible first|apply wc_seq|apply wc_region|apply wl_nil|apply qk_thn|apply wc_block)|((with_reducible apply ws);exact rfl;exact rfl)
 refine wc_loop (α := Nat) (fun i => [(8, .int .i64 (i : Int)), (7, .int .i64 (fs.length : Int)), (6, .slice a fs.length c), (3, .int .u32 (known (fs.take i) : Nat))]) (fun i w' => i ≤ fs.length ∧ Below w.heap.size w w') (fun i => fs.length - i) 0 ⟨rfl, rfl, rfl, rfl, trivial⟩ ⟨by omega, Below.refl _ _⟩ ?_
 rintro i w1 ⟨hi, hw⟩
 repeat first|(with_reducible first|apply wc_seq|apply wc_region|apply wl_nil|apply qk_thn)|((with_reducible apply ws);exact rfl;exact rfl)
 by_cases hlt : i < fs.length
 ·refine wc_yes rfl (by simpa using hlt) ?_
  obtain ⟨b, off, c', cs, hv, _, hcs, hlen, hr⟩ := (h.below (hw.mono hB) (Nat.le_refl _)).get (sz := 8) (i := i) (by intro d hd; obtain ⟨x, _, rfl⟩ := List.mem_map.1 hd; exact fldD_width x) (by simpa using hlt)
  simp only [Value.slice.injEq, List.length_map] at hv
  obtain ⟨rfl, _, rfl⟩ := hv
  simp only [List.getElem_map] at hr
  obtain ⟨hone, _⟩ := fld_one hr
  have hti := ht fs[i] (by simp)
  have hkl := known_le (fs := fs.take i) (fun f hf => ht f (List.mem_of_mem_take hf))
  have hsn := known_snoc (fs.take i) fs[i]
  rw [← List.take_succ_eq_append_getElem hlt] at hsn
  obtain ⟨sv, hce, _⟩ := fld_cells hr
  subst hce
  repeat (with_reducible first|apply wc_seq|apply wc_region|apply qk_thn|apply wc_block|apply wc_skip)
  refine wl_indexAddr rfl rfl es_flds rfl hlt ?_
  refine wl_loadAgg (cs := [.int .i64 fs[i].kind, .int .i64 fs[i].fr, .int .i64 fs[i].upto, .int .i64 fs[i].nul, .int .i64 fs[i].tag, .int .i64 fs[i].df, .int .i64 fs[i].of, sv]) rfl ta_fld rfl (fun j v e => hcs.cell e) ?_
  refine wl_alloc zv_fld rfl rfl (fun w2 hb2 hg2 hs2 => ?_)
  refine wl_storeBAgg rfl rfl rfl tz_fld hone hb2 rfl (fun w3 hb3 hg3 hs3 => ?_)
  have hs1 := hw.size
  have hw3 : Below w.heap.size w w3 := (hw.trans (below_of hg2 hs1 (by simp))).trans (below_of hg3 (by omega) (by intro k hk; simp at hk; omega))
  repeat first|(with_reducible first|apply wc_seq|apply wc_region|apply wl_nil|apply qk_thn)|((with_reducible apply ws);exact rfl;exact rfl)
  refine wl_loadB rfl to_int rfl hb3 rfl ?_
  repeat first|(with_reducible first|apply wl_nil|apply qk_thn)|((with_reducible apply ws);exact rfl;exact rfl)
  by_cases htag : 0 ≤ fs[i].tag
  ·refine wc_yes rfl (by simpa using htag) ?_
   rw [if_pos htag] at hsn
   repeat first|(with_reducible apply wc_region)|((with_reducible apply ws);exact rfl;exact rfl)
   refine wl_loadB rfl to_int rfl hb3 rfl ?_
   refine wl_conv .u32 rfl ti_i64 ti_u32 rfl (r := fs[i].tag) (by rw [IntKind.wrap_u32]; omega) ?_
   refine wl_add rfl rfl rfl (r := fs[i].tag + 1) (by rw [IntKind.wrap_u32]; omega) ?_
   refine wl_max rfl rfl rfl (r := ((known (fs.take (i + 1)) : Nat) : Int)) (by rw [hsn]; split <;> omega) ?_
   repeat first|(with_reducible first|apply wc_region|apply wl_nil|apply qk_thn|apply qk_in)|((with_reducible apply ws);exact rfl;exact rfl)
   refine wl_add rfl rfl rfl (r := ((i + 1 : Nat) : Int)) (by rw [IntKind.wrap_i64]; omega) ?_
   repeat first|(with_reducible apply wl_nil)|((with_reducible apply ws);exact rfl;exact rfl)
   exact qk_round (i + 1) ⟨rfl, rfl, rfl, rfl, trivial⟩ ⟨by omega, hw3⟩ (by omega)
  ·refine wc_no rfl (by simpa using htag) ?_
   rw [if_neg htag] at hsn
   repeat (with_reducible first|apply wc_region|apply qk_thn|apply wc_skip|apply qk_in)
   refine wl_add rfl rfl rfl (r := ((i + 1 : Nat) : Int)) (by rw [IntKind.wrap_i64]; omega) ?_
   repeat first|(with_reducible apply wl_nil)|((with_reducible apply ws);exact rfl;exact rfl)
   exact qk_round (i + 1) ⟨rfl, rfl, rfl, by rw [hsn]; rfl, trivial⟩ ⟨by omega, hw3⟩ (by omega)
 ·refine wc_no rfl (by simpa using hlt) ?_
  repeat first|(with_reducible first|apply wc_seq|apply wc_region|apply wl_nil|apply qk_thn|apply wc_ret|apply wc_exit|apply qk_thn_exit|apply qk_in_exit|apply qk_round_exit)|((with_reducible apply ws);exact rfl;exact rfl)
  refine qk_ret1 rfl rfl ⟨_, rfl, hw, ?_⟩
  rw [List.take_of_length_le (by omega)]
end
end Go.Proofs.YtlmnaffhadeolaaGreatDoor

namespace Go.Proofs.YtlmnaffhadeolaaGreatDoor
open Go Go.RowKit
section
variable {P : Program} {N : Nat} {L : Sl} {a : Act} {w : World}
theorem gv_noU {ops : List Oper} {i j t : Nat} {o : Oper} {want : Bool} (ho : ops[i]? = some o) (hg : o.guard = some (j, want)) (hj : dstOf ops j = some t) (k : Kn N a L) (hb : lk L t = some undef) : Gives P ops i undef a w := by
  unfold Gives
  rw [ho]
  have h1 := k.at_ t _ hb
  have hy : yielded ops.toArray a.tmps j = none := by
    have hj' : (ops[j]?).bind (·.dst) = some t := hj
    simp only [yielded, List.getElem?_toArray, hj', Option.bind_some]
    simp only [gt, Array.getD_eq_getD_getElem?] at h1
    cases ht : a.tmps[t]? with
    | none => rfl
    | some v => rw [ht] at h1; simp at h1; subst h1; rfl
  exact .inr ⟨by simp [Region.wanted, hg, hy], rfl⟩
end
abbrev Tg : Type := (Nat × List UInt8) × Value
def tcells (qs : List Tg) : List Value := qs.flatMap fun q => [.int .u32 q.1.1, q.2]
theorem tcells_append (a b : List Tg) : tcells (a ++ b) = tcells a ++ tcells b := by simp [tcells]
theorem tcells_cons (q : Tg) (b : List Tg) : tcells (q :: b) = [.int .u32 q.1.1, q.2] ++ tcells b := by simp [tcells]
theorem tcells_length (a : List Tg) : (tcells a).length = a.length * 2 := by
  induction a with
  | nil => rfl
  | cons q a ih => rw [tcells_cons]; simp only [List.length_append, ih, List.length_cons, List.length_nil]; omega
theorem tcells_split (qs : List Tg) {j : Nat} (hj : j < qs.length) : tcells qs = tcells (qs.take j) ++ ([.int .u32 qs[j].1.1, qs[j].2] ++ tcells (qs.drop (j + 1))) := by
  rw [← tcells_cons, ← tcells_append, List.getElem_cons_drop, List.take_append_drop]
theorem tcells_at {w : World} {g : Nat} {qs : List Tg} (h : CellsAt w g 0 (tcells qs)) {j : Nat} (hj : j < qs.length) : CellsAt w g (0 + j * 2) [.int .u32 qs[j].1.1, qs[j].2] := by
  rw [tcells_split qs hj] at h
  have := h.part
  rwa [tcells_length, List.length_take, Nat.min_eq_left (by omega)] at this
theorem tcells_set (qs : List Tg) {j : Nat} (hj : j < qs.length) (q : Tg) : (tcells qs).take (j * 2) ++ [.int .u32 q.1.1, q.2] ++ (tcells qs).drop (j * 2 + 2) = tcells (qs.set j q) := by
  have e1 : (tcells (qs.take j)).length = j * 2 := by rw [tcells_length, List.length_take, Nat.min_eq_left (by omega)]
  rw [tcells_split qs hj, List.set_eq_take_append_cons_drop, if_pos hj, tcells_append, tcells_cons]
  rw [List.take_append_of_le_length (by omega), List.take_of_length_le (by omega), ← List.append_assoc, List.drop_append_of_le_length (by simp [e1])]
  rw [List.drop_of_length_le (by simp [e1])]
  simp
theorem tcells_reps {B : Nat} {w : World} : ∀ (qs : List Tg), (∀ q ∈ qs, Sq B w q.2 (q.1.2.map byteD)) → Reps (Lo B) w (qs.map fun q => tagD q.1) (tcells qs)
  | [], _ => by simp [tcells, Reps]
  | q :: qs, h => by
    rw [tcells_cons, List.map_cons]
    simp only [Reps]
    refine ⟨_, _, rfl, ?_, tcells_reps qs (fun x hx => h x (by simp [hx]))⟩
    have h1 := h q (by simp)
    simp only [Sq] at h1
    simp only [tagD, Rep, Reps, bytesD]
    refine ⟨[_], [q.2], rfl, rfl, [q.2], [], rfl, ?_, rfl⟩
    simpa [Rep] using h1
theorem putTag_at (k : Nat) (v : List UInt8) : ∀ (l : List (Nat × List UInt8)) (j : Nat) (_ : j ≤ l.length), (∀ q (h : q < l.length), q < j → l[q].1 < k) → (∀ h : j < l.length, ¬ l[j].1 < k) →
    putTag k v l = if (∃ h : j < l.length, l[j].1 = k) then l else l.take j ++ (k, v) :: l.drop j
  | [], j, hj, _, _ => by
    have : j = 0 := by simpa using hj
    subst this; simp [putTag]
  | kv :: r, 0, _, _, h2 => by
    have := h2 (by simp)
    simp only [List.getElem_cons_zero] at this
    simp only [putTag, if_neg this, List.length_cons, List.getElem_cons_zero, List.take_zero, List.drop_zero, List.nil_append]
    by_cases he : kv.1 = k <;> simp [he]
  | kv :: r, j + 1, hj, h1, h2 => by
    have h0 := h1 0 (by simp) (by omega)
    simp only [List.getElem_cons_zero] at h0
    have ih := putTag_at k v r j (by simpa using hj) (fun q h hq => h1 (q + 1) (Nat.succ_lt_succ h) (Nat.succ_lt_succ hq)) (fun h => h2 (Nat.succ_lt_succ h))
    simp only [putTag, if_pos h0, ih, List.length_cons, List.getElem_cons_succ, Nat.add_lt_add_iff_right, List.take_succ_cons, List.drop_succ_cons]
    split <;> simp
def step (least : Nat) (out : List (Nat × List UInt8)) (kv : Nat × List UInt8) : List (Nat × List UInt8) := if kv.1 < least then out else putTag kv.1 kv.2 out
theorem putTag_length (k : Nat) (v : List UInt8) (l : List (Nat × List UInt8)) : (putTag k v l).length ≤ l.length + 1 := by
  induction l with
  | nil => simp [putTag]
  | cons a l ih => simp only [putTag]; split; · simp; omega
                   · split <;> simp
theorem step_fold_snoc (least : Nat) (u : List (Nat × List UInt8)) {i : Nat} (hi : i < u.length) : (u.take (i + 1)).foldl (step least) [] = step least ((u.take i).foldl (step least) []) u[i] := by
  rw [List.take_succ_eq_append_getElem hi, List.foldl_append]; rfl
theorem step_fold_length (least : Nat) : ∀ (u out : List (Nat × List UInt8)), (u.foldl (step least) out).length ≤ out.length + u.length
  | [], out => by simp
  | kv :: u, out => by
    have h1 := step_fold_length least u (step least out kv)
    have h2 : (step least out kv).length ≤ out.length + 1 := by
      unfold step; split
      · omega
      · exact putTag_length _ _ _
    simp only [List.foldl_cons, List.length_cons]; omega
structure UkS where
  i : Nat
  d : Value
  qs : List Tg
structure UkI (B : Nat) (w : World) (N0 tt least : Nat) (u : List (Nat × List UInt8)) (x : UkS) (w' : World) : Prop where
  le : x.i ≤ min u.length Most
  below : Below w.heap.size w w'
  row : w'.ownsRow N0 tt 2 x.d x.qs.length (tcells x.qs)
  says : x.qs.map (·.1) = (u.take x.i).foldl (step least) []
  at_ : ∀ q ∈ x.qs, Sq B w q.2 (q.1.2.map byteD)
theorem tg_len {qs : List Tg} {l : List (Nat × List UInt8)} (h : qs.map (·.1) = l) : l.length = qs.length := by rw [← h]; simp
theorem tg_get {qs : List Tg} {l : List (Nat × List UInt8)} (h : qs.map (·.1) = l) {j : Nat} (hj : j < qs.length) (hl : j < l.length) : l[j] = qs[j].1 := by subst h; simp
theorem shift_end (qs : List Tg) (x q : Tg) {j : Nat} (hj : j ≤ qs.length) : (qs.take j ++ x :: qs.drop j).set j q = qs.take j ++ q :: qs.drop j := by
  rw [List.set_append_right _ _ (by simp; omega)]
  have : j - (qs.take j).length = 0 := by simp; omega
  rw [this]; rfl
theorem shift_step (qs : List Tg) (x : Tg) {k : Nat} (hk : k + 1 ≤ qs.length) : (qs.take (k + 1) ++ x :: qs.drop (k + 1)).set (k + 1) qs[k] = qs.take k ++ qs[k] :: qs.drop k := by
  rw [shift_end qs x _ hk, List.take_succ_eq_append_getElem (by omega), List.append_assoc]
  congr 1
  simp only [List.singleton_append]
  rw [List.getElem_cons_drop]
theorem Row.kept {w w' : World} {B e sz : Nat} {d : Value} {n : Nat} {xs : List Value} {row : Option Nat} (h : w.ownsRow B e sz d n xs) (hg : w.grownBy w' row) (hne : ∀ g, d.ownBlock = some g → row ≠ some g) : w'.ownsRow B e sz d n xs := by
  refine World.ownsRow.kept h hg ?_
  cases hd : d.ownBlock with
  | none => exact .inl rfl
  | some g => exact .inr (fun e => hne g hd e.symm)
section
set_option maxRecDepth 100000
theorem fn_unknownR (fv uv : Value) (fs : List Fld) (u : List (Nat × List UInt8)) (B : Nat) (w : World) (hB : B ≤ w.heap.size) (hf : Sq B w fv (fs.map fldD)) (hu : Sq B w uv (u.map tagD)) (ht : ∀ f ∈ fs, f.tag < 2147483647) (hl : fs.length ≤ 1000000) :
    Fn 39 [fv, uv] w fun r w' => ∃ qs : List Tg, w'.ownsRow w.heap.size 79 2 r qs.length (tcells qs) ∧ qs.map (·.1) = unknown fs u ∧ ∀ q ∈ qs, Sq B w q.2 (q.1.2.map byteD) := by
  obtain ⟨au, cu, rfl, hcu⟩ := hu.shape
  simp only [List.length_map] at *
  have hkn := known_le ht
  refine enter Tryz.func39 rfl Tryz.ntmps39 rfl ?_
  repeat first|(with_reducible first|apply wc_seq|apply wc_region|apply wl_nil|apply qk_thn)|((with_reducible apply ws);exact rfl;exact rfl)
  refine wl_call rfl (by kernel_rfl) rfl ((fn_known fv fs B w hB hf ht hl).mono ?_)
  rintro e w0 ⟨v, rfl, hw0, rfl⟩
  refine ⟨_, rfl, ?_⟩
  repeat first|(with_reducible first|apply wc_seq|apply wc_region|apply wl_nil|apply qk_thn)|((with_reducible apply ws);exact rfl;exact rfl)
  refine wl_min rfl rfl rfl (min_if u.length) ?_
  refine wl_sliceHi rfl rfl el_tags rfl (by omega) ?_
  repeat first|(with_reducible first|apply wl_nil|apply qk_thn|apply wc_block)|((with_reducible apply ws);exact rfl;exact rfl)
  refine wc_loop (α := UkS) (fun x => [(19, .int .i64 (x.i : Int)), (18, .int .i64 ((min u.length Most : Nat) : Int)), (17, .slice au (min u.length Most) cu), (6, x.d), (5, .int .u32 (known fs : Nat))]) (UkI B w w.heap.size 79 (known fs) u) (fun x => min u.length Most - x.i) ⟨0, .slice none 0 0, []⟩ ⟨rfl, rfl, rfl, rfl, rfl, trivial⟩ ⟨Nat.zero_le _, hw0, World.ownsRow_nil _ _ _ _, rfl, by simp⟩ ?_
  rintro ⟨i, d, qs⟩ w1 ⟨hi, hw1, hrow, hsay, hat⟩
  simp only [] at hi hrow hsay hat
  change WC _ _ _ _ [(19, .int .i64 (i : Int)), (18, .int .i64 ((min u.length Most : Nat) : Int)), (17, .slice au (min u.length Most) cu), (6, d), (5, .int .u32 (known fs : Nat))] _
  have hqn : qs.length ≤ 32767 := by
    rw [← tg_len hsay]
    have := step_fold_length (known fs) (u.take i) []
    simp only [List.length_nil, List.length_take, Nat.zero_add] at this
    simp only [Most] at hi; omega
  repeat first|(with_reducible first|apply wc_seq|apply wc_region|apply wl_nil|apply qk_thn)|((with_reducible apply ws);exact rfl;exact rfl)
  by_cases hlt : i < min u.length Most
  · refine wc_yes rfl (by simpa using hlt) ?_
    have hi32 : i < 32767 := Nat.lt_of_lt_of_le hlt (Nat.min_le_right u.length Most)
    have hiu : i < u.length := by omega
    have hsn := step_fold_snoc (known fs) u hiu
    obtain ⟨b, off, c', cs, hv, _, hcs, hlen, hr⟩ := (hu.below (hw1.mono hB) (Nat.le_refl _)).get (sz := 2) (i := i) (by intro d hd; obtain ⟨x, _, rfl⟩ := List.mem_map.1 hd; exact tagD_width x) (by simpa using hiu)
    simp only [Value.slice.injEq, List.length_map] at hv
    obtain ⟨rfl, _, rfl⟩ := hv
    simp only [List.getElem_map] at hr
    obtain ⟨hone, _⟩ := tag_one hr
    obtain ⟨sv, hce, hsv1⟩ := tag_cells hr
    subst hce
    have hsv : Sq B w sv (u[i].2.map byteD) := by
      obtain ⟨b2, off2, c2, cs2, hv2, _, hcs2, hlen2, hr2⟩ := hu.get (sz := 2) (i := i) (by intro d hd; obtain ⟨x, _, rfl⟩ := List.mem_map.1 hd; exact tagD_width x) (by simpa using hiu)
      simp only [Value.slice.injEq, Option.some.injEq, Addr.mk.injEq, and_true] at hv2
      obtain ⟨⟨rfl, rfl⟩, _, _⟩ := hv2
      simp only [List.getElem_map] at hr2
      obtain ⟨sv2, hce2, hsv2⟩ := tag_cells hr2
      subst hce2
      have hb1 := hw1.mono hB
      have e1 := hcs.cell (i := 1) (v := sv) rfl
      have e2 := (hcs2.of_block (hb1.block b (by assumption))).cell (i := 1) (v := sv2) rfl
      rw [e1] at e2; cases e2
      exact hsv2
    repeat (with_reducible first|apply wc_seq|apply wc_region|apply qk_thn|apply wc_block|apply wc_skip)
    refine wl_indexAddr rfl rfl es_tags rfl hlt ?_
    refine wl_loadAgg (cs := [.int .u32 u[i].1, sv]) rfl ta_tag rfl (fun j v e => hcs.cell e) ?_
    refine wl_alloc zv_tag rfl rfl (fun w2 hb2 hg2 hs2 => ?_)
    refine wl_storeBAgg (vs := [.int .u32 u[i].1, sv]) rfl rfl rfl tz_tag hone hb2 rfl (fun w3 hb3 hg3 hs3 => ?_)
    have hs1 := hw1.size
    have hw3 : Below w.heap.size w w3 := (hw1.trans (below_of hg2 hs1 (by simp))).trans (below_of hg3 (by omega) (by intro k hk; simp at hk; omega))
    have hdlt : ∀ g, d.ownBlock = some g → w.heap.size ≤ g ∧ g < w1.heap.size := fun g hg => World.ownsRow.lt hrow g hg
    have hrow3 : w3.ownsRow w.heap.size 79 2 d qs.length (tcells qs) :=
      Row.kept (Row.kept hrow hg2 (fun g _ => by simp)) hg3 (fun g hg e => by have := hdlt g hg; simp at e; omega)
    refine wl_nil (qk_thn (wc_seq (wc_region ?_)))
    repeat ((with_reducible apply ws);exact rfl;exact rfl)
    refine wl_nil (qk_thn ?_)
    refine wc_cut (α := Nat) (fun j => [(19, .int .i64 (i : Int)), (18, .int .i64 ((min u.length Most : Nat) : Int)), (17, .slice (some ⟨b, off, none⟩) (min u.length Most) cu), (9, .int .i64 (j : Int)), (8, .pointer (some ⟨w1.heap.size, 0, none⟩)), (6, d), (5, .int .u32 (known fs : Nat))])
      (fun j w' => j ≤ qs.length ∧ (∀ q (h : q < qs.length), q < j → qs[q].1.1 < u[i].1) ∧ (∀ h : j < qs.length, ¬ qs[j].1.1 < u[i].1) ∧ Below w.heap.size w w' ∧ w'.ownsRow w.heap.size 79 2 d qs.length (tcells qs) ∧ Box w' w1.heap.size [.int .u32 u[i].1, sv] 79) ?_ ?_
    · repeat (with_reducible apply wc_block)
      refine wc_loop (α := Nat) (fun j => [(19, .int .i64 (i : Int)), (18, .int .i64 ((min u.length Most : Nat) : Int)), (17, .slice (some ⟨b, off, none⟩) (min u.length Most) cu), (9, .int .i64 (j : Int)), (8, .pointer (some ⟨w1.heap.size, 0, none⟩)), (6, d), (5, .int .u32 (known fs : Nat))])
        (fun j w' => j ≤ qs.length ∧ (∀ q (h : q < qs.length), q < j → qs[q].1.1 < u[i].1) ∧ Below w.heap.size w w' ∧ w'.ownsRow w.heap.size 79 2 d qs.length (tcells qs) ∧ Box w' w1.heap.size [.int .u32 u[i].1, sv] 79) (fun j => qs.length - j) 0 ⟨rfl, rfl, rfl, rfl, rfl, rfl, rfl, trivial⟩ ⟨Nat.zero_le _, by omega, hw3, hrow3, hb3⟩ ?_
      rintro j w4 ⟨hj, hbef, hw4, hrow4, hb4⟩
      repeat (with_reducible apply wc_seq)
      obtain ⟨ad, cd, hde⟩ := Row.shape hrow4
      subst hde
      by_cases hjl : j < qs.length
      · obtain ⟨g, cap, hde, hg1, hg2', hca⟩ := Row.cells hrow4 (by omega)
        simp only [Value.slice.injEq, true_and] at hde
        obtain ⟨rfl, rfl⟩ := hde
        have hcj := tcells_at hca hjl
        refine wc_par [(0, .int .i64 (j : Int)), (1, .slice (some ⟨g, 0, none⟩) qs.length cd), (2, .int .i64 (qs.length : Int)), (3, .bool (decide ((j : Int) < (qs.length : Int)))), (4, .bool (decide ((j : Int) < (qs.length : Int)))), (5, .slice (some ⟨g, 0, none⟩) qs.length cd), (6, .int .i64 (j : Int)), (7, .pointer (some ⟨g, 0 + j * 2, none⟩)), (8, .pointer (some ⟨g, 0 + j * 2 + 0, none⟩)), (9, .int .u32 (qs[j].1.1 : Nat)), (10, .pointer (some ⟨w1.heap.size, 0 + 0, none⟩)), (11, .int .u32 (u[i].1 : Nat)), (12, .bool (decide ((qs[j].1.1 : Int) < (u[i].1 : Int)))), (13, .bool (decide ((qs[j].1.1 : Int) < (u[i].1 : Int))))] []
          (fun _ w' => w' = w4.drew)
          mixed rfl rfl rfl rfl rfl (by show ([0,1,2,3,4,5,6,7,8,9,10,11,12,13] : List Nat).Nodup; decide) rfl rfl (by decide) rfl rfl rfl rfl rfl ?_ trivial ?_
        · intro p hp vals w' hC a k
          subst hC
          simp only [List.mem_cons, List.not_mem_nil, or_false] at hp
          have ht4 : decide ((j : Int) < (qs.length : Int)) = true := by simpa using hjl
          rcases hp with rfl | rfl | rfl | rfl | rfl | rfl | rfl | rfl | rfl | rfl | rfl | rfl | rfl | rfl
          · exact gv rfl rfl (rn_move k rfl)
          · exact gv rfl rfl (rn_move k rfl)
          · exact gv rfl rfl (rn_len k rfl el_tags)
          · exact gv rfl rfl (rn_lss k rfl rfl)
          · exact gv rfl rfl (rn_move k rfl)
          · exact gv_yes rfl rfl rfl k rfl (by rw [ht4]; rfl) (rn_move k rfl)
          · exact gv_yes rfl rfl rfl k rfl (by rw [ht4]; rfl) (rn_move k rfl)
          · exact gv_yes rfl rfl rfl k rfl (by rw [ht4]; rfl) (rn_indexAddr k rfl rfl es_tags hjl)
          · exact gv_yes rfl rfl rfl k rfl (by rw [ht4]; rfl) (rn_fieldAddr k rfl fo_tag0)
          · exact gv_yes rfl rfl rfl k rfl (by rw [ht4]; rfl) (rn_load k rfl to_u32 (hcj.cell (i := 0) rfl))
          · exact gv_yes rfl rfl rfl k rfl (by rw [ht4]; rfl) (rn_fieldAddr k rfl fo_tag0)
          · exact gv_yes rfl rfl rfl k rfl (by rw [ht4]; rfl) (rn_load k rfl to_u32 (hb4.cell0 (i := 0) rfl))
          · exact gv_yes rfl rfl rfl k rfl (by rw [ht4]; rfl) (rn_lss k rfl rfl)
          · exact gv rfl rfl (rn_pick k rfl (by rw [ht4]; rfl))
        · rintro vals w5 hvl rfl
          refine qk_thn ?_
          by_cases hle : qs[j].1.1 < u[i].1
          · refine wc_yes rfl (by simpa using hle) ?_
            repeat first|(with_reducible first|apply wc_region|apply qk_thn|apply wc_block|apply wc_skip)|((with_reducible apply ws);exact rfl;exact rfl)
            refine wl_add rfl rfl rfl (r := ((j + 1 : Nat) : Int)) (by rw [IntKind.wrap_i64]; omega) ?_
            repeat first|(with_reducible first|apply wl_nil|apply qk_in)|((with_reducible apply ws);exact rfl;exact rfl)
            refine qk_round (j + 1) ⟨rfl, rfl, rfl, rfl, rfl, rfl, rfl, trivial⟩ ⟨by omega, ?_, hw4.drew, hrow4, hb4⟩ (by omega)
            intro q hq hqj
            by_cases hqe : q = j
            · subst hqe; exact hle
            · exact hbef q hq (by omega)
          · refine wc_no rfl (by simpa using hle) ?_
            repeat (with_reducible first|apply wc_exit|apply qk_thn_exit|apply qk_in_exit|apply qk_round_exit)
            exact qk_cut j ⟨rfl, rfl, rfl, rfl, rfl, rfl, rfl, trivial⟩ ⟨hj, hbef, fun _ => hle, hw4.drew, hrow4, hb4⟩
      · have hjn : j = qs.length := by omega
        have ht4 : decide ((j : Int) < (qs.length : Int)) = false := by simpa using hjl
        refine wc_par [(0, .int .i64 (j : Int)), (1, .slice ad qs.length cd), (2, .int .i64 (qs.length : Int)), (3, .bool (decide ((j : Int) < (qs.length : Int)))), (4, .bool (decide ((j : Int) < (qs.length : Int)))), (5, undef), (6, undef), (7, undef), (8, undef), (9, undef), (10, undef), (11, undef), (12, undef), (13, .bool false)] []
          (fun _ w' => w' = w4.drew)
          mixed rfl rfl rfl rfl rfl (by show ([0,1,2,3,4,5,6,7,8,9,10,11,12,13] : List Nat).Nodup; decide) rfl rfl (by decide) rfl rfl rfl rfl rfl ?_ trivial ?_
        · intro p hp vals w' hC a k
          subst hC
          simp only [List.mem_cons, List.not_mem_nil, or_false] at hp
          rcases hp with rfl | rfl | rfl | rfl | rfl | rfl | rfl | rfl | rfl | rfl | rfl | rfl | rfl | rfl
          · exact gv rfl rfl (rn_move k rfl)
          · exact gv rfl rfl (rn_move k rfl)
          · exact gv rfl rfl (rn_len k rfl el_tags)
          · exact gv rfl rfl (rn_lss k rfl rfl)
          · exact gv rfl rfl (rn_move k rfl)
          iterate 8 (exact gv_no rfl rfl rfl k rfl (by rw [ht4]; rfl))
          · exact gv rfl rfl (rn_pick k rfl (by rw [ht4]; rfl))
        · rintro vals w5 hvl rfl
          refine qk_thn ?_
          refine wc_no rfl rfl ?_
          repeat (with_reducible first|apply wc_exit|apply qk_thn_exit|apply qk_in_exit|apply qk_round_exit)
          exact qk_cut j ⟨rfl, rfl, rfl, rfl, rfl, rfl, rfl, trivial⟩ ⟨hj, hbef, fun h => absurd h hjl, hw4.drew, hrow4, hb4⟩
    rintro j w4 ⟨hj, hbef, hnot, hw4, hrow4, hb4⟩
    obtain ⟨ad, cd, hde⟩ := Row.shape hrow4
    subst hde
    have hjl' : j ≤ ((u.take i).foldl (step (known fs)) []).length := by rw [tg_len hsay]; exact hj
    have hput := putTag_at u[i].1 u[i].2 ((u.take i).foldl (step (known fs)) []) j hjl'
      (fun q hq hqj => by rw [tg_get hsay (by rw [← tg_len hsay]; exact hq) hq]; exact hbef q _ hqj)
      (fun h => by rw [tg_get hsay (by rw [← tg_len hsay]; exact h) h]; exact hnot _)
    refine wc_cut (α := Unit) (fun _ => [(19, .int .i64 (i : Int)), (18, .int .i64 ((min u.length Most : Nat) : Int)), (17, .slice (some ⟨b, off, none⟩) (min u.length Most) cu), (9, .int .i64 (j : Int)), (8, .pointer (some ⟨w1.heap.size, 0, none⟩)), (6, .slice ad qs.length cd), (5, .int .u32 (known fs : Nat))])
      (fun _ w' => known fs ≤ u[i].1 ∧ (∀ h : j < qs.length, qs[j].1.1 ≠ u[i].1) ∧ w' = w4.drew) ?_ ?_
    · refine wc_seq ?_
      by_cases hk : u[i].1 < known fs
      · have ht4 : decide ((u[i].1 : Int) < (known fs : Int)) = true := by simpa using hk
        refine wc_par [(0, .pointer (some ⟨w1.heap.size, 0 + 0, none⟩)), (1, .int .u32 (u[i].1 : Nat)), (2, .int .u32 (known fs : Nat)), (3, .bool (decide ((u[i].1 : Int) < (known fs : Int)))), (4, .bool (decide ((u[i].1 : Int) < (known fs : Int)))), (5, undef), (6, undef), (7, undef), (8, undef), (9, undef), (10, undef), (11, undef), (12, undef), (13, undef), (14, undef), (15, undef), (16, undef), (17, undef), (18, undef), (19, .bool true)] []
          (fun _ w' => w' = w4.drew) mixed rfl rfl rfl rfl rfl (by show ([0,1,2,3,4,5,6,7,8,9,10,11,12,13,14,15,16,17,18,19] : List Nat).Nodup; decide) rfl rfl (by decide) rfl rfl rfl rfl rfl ?_ trivial ?_
        · intro p hp vals w' hC a k
          subst hC
          simp only [List.mem_cons, List.not_mem_nil, or_false] at hp
          rcases hp with rfl | rfl | rfl | rfl | rfl | rfl | rfl | rfl | rfl | rfl | rfl | rfl | rfl | rfl | rfl | rfl | rfl | rfl | rfl | rfl
          · exact gv rfl rfl (rn_fieldAddr k rfl fo_tag0)
          · exact gv rfl rfl (rn_load k rfl to_u32 (hb4.cell0 (i := 0) rfl))
          · exact gv rfl rfl (rn_move k rfl)
          · exact gv rfl rfl (rn_lss k rfl rfl)
          · exact gv rfl rfl (rn_move k rfl)
          iterate 5 (exact gv_no rfl rfl rfl k rfl (by rw [ht4]; rfl))
          iterate 8 (exact gv_noU rfl rfl rfl k rfl)
          · exact gv_no rfl rfl rfl k rfl (by rw [ht4]; rfl)
          · exact gv rfl rfl (rn_pick k rfl (by rw [ht4]; rfl))
        · rintro vals w5 hvl rfl
          refine qk_thn ?_
          refine wc_yes rfl rfl ?_
          repeat (with_reducible first|apply wc_region|apply qk_thn|apply wc_exit|apply qk_in_exit|apply qk_round_exit)
          refine wl_add rfl rfl rfl (r := ((i + 1 : Nat) : Int)) (by rw [IntKind.wrap_i64]; omega) ?_
          repeat first|(with_reducible apply wl_nil)|((with_reducible apply ws);exact rfl;exact rfl)
          refine qk_round ⟨i + 1, .slice ad qs.length cd, qs⟩ ⟨rfl, rfl, rfl, rfl, rfl, trivial⟩ ⟨by simp only []; omega, hw4.drew, hrow4, ?_, hat⟩ (by simp only []; omega)
          rw [hsay, hsn, step, if_pos hk]
      · have ht4 : decide ((u[i].1 : Int) < (known fs : Int)) = false := by simpa using hk
        by_cases hjl : j < qs.length
        · obtain ⟨g, cap, hde, hg1, hg2', hca⟩ := Row.cells hrow4 (by omega)
          simp only [Value.slice.injEq, true_and] at hde
          obtain ⟨rfl, rfl⟩ := hde
          have hcj := tcells_at hca hjl
          have ht8 : decide ((j : Int) < (qs.length : Int)) = true := by simpa using hjl
          refine wc_par [(0, .pointer (some ⟨w1.heap.size, 0 + 0, none⟩)), (1, .int .u32 (u[i].1 : Nat)), (2, .int .u32 (known fs : Nat)), (3, .bool (decide ((u[i].1 : Int) < (known fs : Int)))), (4, .bool (decide ((u[i].1 : Int) < (known fs : Int)))), (5, .int .i64 (j : Int)), (6, .slice (some ⟨g, 0, none⟩) qs.length cd), (7, .int .i64 (qs.length : Int)), (8, .bool (decide ((j : Int) < (qs.length : Int)))), (9, .bool (decide ((j : Int) < (qs.length : Int)))), (10, .slice (some ⟨g, 0, none⟩) qs.length cd), (11, .int .i64 (j : Int)), (12, .pointer (some ⟨g, 0 + j * 2, none⟩)), (13, .pointer (some ⟨g, 0 + j * 2 + 0, none⟩)), (14, .int .u32 (qs[j].1.1 : Nat)), (15, .pointer (some ⟨w1.heap.size, 0 + 0, none⟩)), (16, .int .u32 (u[i].1 : Nat)), (17, .bool ((qs[j].1.1 : Int) == (u[i].1 : Int))), (18, .bool ((qs[j].1.1 : Int) == (u[i].1 : Int))), (19, .bool ((qs[j].1.1 : Int) == (u[i].1 : Int)))] []
            (fun _ w' => w' = w4.drew) mixed rfl rfl rfl rfl rfl (by show ([0,1,2,3,4,5,6,7,8,9,10,11,12,13,14,15,16,17,18,19] : List Nat).Nodup; decide) rfl rfl (by decide) rfl rfl rfl rfl rfl ?_ trivial ?_
          · intro p hp vals w' hC a k
            subst hC
            simp only [List.mem_cons, List.not_mem_nil, or_false] at hp
            rcases hp with rfl | rfl | rfl | rfl | rfl | rfl | rfl | rfl | rfl | rfl | rfl | rfl | rfl | rfl | rfl | rfl | rfl | rfl | rfl | rfl
            · exact gv rfl rfl (rn_fieldAddr k rfl fo_tag0)
            · exact gv rfl rfl (rn_load k rfl to_u32 (hb4.cell0 (i := 0) rfl))
            · exact gv rfl rfl (rn_move k rfl)
            · exact gv rfl rfl (rn_lss k rfl rfl)
            · exact gv rfl rfl (rn_move k rfl)
            · exact gv_yes rfl rfl rfl k rfl (by rw [ht4]; rfl) (rn_move k rfl)
            · exact gv_yes rfl rfl rfl k rfl (by rw [ht4]; rfl) (rn_move k rfl)
            · exact gv_yes rfl rfl rfl k rfl (by rw [ht4]; rfl) (rn_len k rfl el_tags)
            · exact gv_yes rfl rfl rfl k rfl (by rw [ht4]; rfl) (rn_lss k rfl rfl)
            · exact gv_yes rfl rfl rfl k rfl (by rw [ht4]; rfl) (rn_move k rfl)
            · exact gv_yes rfl rfl rfl k rfl (by rw [ht8]; rfl) (rn_move k rfl)
            · exact gv_yes rfl rfl rfl k rfl (by rw [ht8]; rfl) (rn_move k rfl)
            · exact gv_yes rfl rfl rfl k rfl (by rw [ht8]; rfl) (rn_indexAddr k rfl rfl es_tags hjl)
            · exact gv_yes rfl rfl rfl k rfl (by rw [ht8]; rfl) (rn_fieldAddr k rfl fo_tag0)
            · exact gv_yes rfl rfl rfl k rfl (by rw [ht8]; rfl) (rn_load k rfl to_u32 (hcj.cell (i := 0) rfl))
            · exact gv_yes rfl rfl rfl k rfl (by rw [ht8]; rfl) (rn_fieldAddr k rfl fo_tag0)
            · exact gv_yes rfl rfl rfl k rfl (by rw [ht8]; rfl) (rn_load k rfl to_u32 (hb4.cell0 (i := 0) rfl))
            · exact gv_yes rfl rfl rfl k rfl (by rw [ht8]; rfl) (rn_eql k rfl rfl)
            · exact gv_yes rfl rfl rfl k rfl (by rw [ht4]; rfl) (rn_pick k rfl (by rw [ht8]; rfl))
            · exact gv rfl rfl (rn_pick k rfl (by rw [ht4]; rfl))
          · rintro vals w5 hvl rfl
            refine qk_thn ?_
            by_cases hq : qs[j].1.1 = u[i].1
            · refine wc_yes rfl (by simp [hq]) ?_
              repeat (with_reducible first|apply wc_region|apply qk_thn|apply wc_exit|apply qk_in_exit|apply qk_round_exit)
              refine wl_add rfl rfl rfl (r := ((i + 1 : Nat) : Int)) (by rw [IntKind.wrap_i64]; omega) ?_
              repeat first|(with_reducible apply wl_nil)|((with_reducible apply ws);exact rfl;exact rfl)
              refine qk_round ⟨i + 1, .slice (some ⟨g, 0, none⟩) qs.length cd, qs⟩ ⟨rfl, rfl, rfl, rfl, rfl, trivial⟩ ⟨by simp only []; omega, hw4.drew, hrow4, ?_, hat⟩ (by simp only []; omega)
              rw [hsn, step, if_neg hk, hput, if_pos, hsay]
              have hjl2 : j < ((u.take i).foldl (step (known fs)) []).length := by rw [tg_len hsay]; exact hjl
              exact ⟨hjl2, by rw [tg_get hsay hjl hjl2]; exact hq⟩
            · refine wc_no rfl (by simp only [beq_eq_false_iff_ne]; omega) ?_
              repeat (with_reducible apply wc_skip)
              exact qk_cut () ⟨rfl, rfl, rfl, rfl, rfl, rfl, rfl, trivial⟩ ⟨by omega, fun _ => hq, rfl⟩
        · have ht8 : decide ((j : Int) < (qs.length : Int)) = false := by simpa using hjl
          refine wc_par [(0, .pointer (some ⟨w1.heap.size, 0 + 0, none⟩)), (1, .int .u32 (u[i].1 : Nat)), (2, .int .u32 (known fs : Nat)), (3, .bool (decide ((u[i].1 : Int) < (known fs : Int)))), (4, .bool (decide ((u[i].1 : Int) < (known fs : Int)))), (5, .int .i64 (j : Int)), (6, .slice ad qs.length cd), (7, .int .i64 (qs.length : Int)), (8, .bool (decide ((j : Int) < (qs.length : Int)))), (9, .bool (decide ((j : Int) < (qs.length : Int)))), (10, undef), (11, undef), (12, undef), (13, undef), (14, undef), (15, undef), (16, undef), (17, undef), (18, .bool false), (19, .bool false)] []
            (fun _ w' => w' = w4.drew) mixed rfl rfl rfl rfl rfl (by show ([0,1,2,3,4,5,6,7,8,9,10,11,12,13,14,15,16,17,18,19] : List Nat).Nodup; decide) rfl rfl (by decide) rfl rfl rfl rfl rfl ?_ trivial ?_
          · intro p hp vals w' hC a k
            subst hC
            simp only [List.mem_cons, List.not_mem_nil, or_false] at hp
            rcases hp with rfl | rfl | rfl | rfl | rfl | rfl | rfl | rfl | rfl | rfl | rfl | rfl | rfl | rfl | rfl | rfl | rfl | rfl | rfl | rfl
            · exact gv rfl rfl (rn_fieldAddr k rfl fo_tag0)
            · exact gv rfl rfl (rn_load k rfl to_u32 (hb4.cell0 (i := 0) rfl))
            · exact gv rfl rfl (rn_move k rfl)
            · exact gv rfl rfl (rn_lss k rfl rfl)
            · exact gv rfl rfl (rn_move k rfl)
            · exact gv_yes rfl rfl rfl k rfl (by rw [ht4]; rfl) (rn_move k rfl)
            · exact gv_yes rfl rfl rfl k rfl (by rw [ht4]; rfl) (rn_move k rfl)
            · exact gv_yes rfl rfl rfl k rfl (by rw [ht4]; rfl) (rn_len k rfl el_tags)
            · exact gv_yes rfl rfl rfl k rfl (by rw [ht4]; rfl) (rn_lss k rfl rfl)
            · exact gv_yes rfl rfl rfl k rfl (by rw [ht4]; rfl) (rn_move k rfl)
            iterate 8 (exact gv_no rfl rfl rfl k rfl (by rw [ht8]; rfl))
            · exact gv_yes rfl rfl rfl k rfl (by rw [ht4]; rfl) (rn_pick k rfl (by rw [ht8]; rfl))
            · exact gv rfl rfl (rn_pick k rfl (by rw [ht4]; rfl))
          · rintro vals w5 hvl rfl
            refine qk_thn ?_
            refine wc_no rfl rfl ?_
            repeat (with_reducible apply wc_skip)
            exact qk_cut () ⟨rfl, rfl, rfl, rfl, rfl, rfl, rfl, trivial⟩ ⟨by omega, fun h => absurd h hjl, rfl⟩
    rintro _ w5 ⟨hk, hne, rfl⟩
    have hins : (u.take (i + 1)).foldl (step (known fs)) [] = ((u.take i).foldl (step (known fs)) []).take j ++ (u[i].1, u[i].2) :: ((u.take i).foldl (step (known fs)) []).drop j := by
      rw [hsn, step, if_neg (by omega), hput, if_neg]
      rintro ⟨h1, h2⟩
      have h1' : j < qs.length := by rw [← tg_len hsay]; exact h1
      rw [tg_get hsay h1' h1] at h2
      exact hne h1' h2
    have hdlt4 := fun g hg => World.ownsRow.lt hrow4 g hg
    have hsz4 : w1.heap.size < w4.heap.size := hb4.lt
    repeat first|(with_reducible first|apply wc_seq|apply wc_region)|((with_reducible apply ws);exact rfl;exact rfl)
    refine wl_build rfl (cs := [.int .u32 0, .slice none 0 0]) (by kernel_rfl) rfl ?_
    refine wl_app1 (by kernel_rfl) rfl rfl rfl rfl rfl rfl rfl rfl hrow4 (by simp; omega) (by simp only [many]; omega) (fun d' w5 hrow5 hg5 => ?_)
    have hrow6 : w5.ownsRow w.heap.size 79 2 d' (qs.length + 1) (tcells (qs.take qs.length ++ (((0, []), .slice none 0 0) : Tg) :: qs.drop qs.length)) := by
      rw [List.take_length, List.drop_length, tcells_append]; exact hrow5
    have hb5 : Box w5 w1.heap.size [.int .u32 u[i].1, sv] 79 := Box.kept (w := w4.drew) hb4 hg5.grown (fun e => by have := (hdlt _ e.symm).2; omega)
    have hw5 : Below w.heap.size w w5 := hw4.drew.trans (hg5.below (by simp; omega) (fun g hg => (hdlt4 g hg).1))
    obtain ⟨g, cap, hde, hgB, hglt, _⟩ := Row.cells hrow5 (by omega)
    subst hde
    have hgne : g ≠ w1.heap.size := by
      rcases hg5.fresh with h | h
      · exact fun e => by have := (hdlt g (by rw [← h]; rfl)).2; omega
      · exact fun e => by have h3 : w4.heap.size ≤ g := h g rfl; omega
    repeat first|(with_reducible first|apply wc_seq|apply wc_region|apply wl_nil|apply qk_thn)|((with_reducible apply ws);exact rfl;exact rfl)
    refine wl_sub' rfl rfl rfl (r := (qs.length : Int)) (by rw [IntKind.wrap_i64]; omega) ?_
    repeat first|(with_reducible first|apply wl_nil|apply qk_thn|apply wc_block)|((with_reducible apply ws);exact rfl;exact rfl)
    refine wc_loop (α := Nat) (fun k => [(19, .int .i64 (i : Int)), (18, .int .i64 ((min u.length Most : Nat) : Int)), (17, .slice (some ⟨b, off, none⟩) (min u.length Most) cu), (9, .int .i64 (j : Int)), (8, .pointer (some ⟨w1.heap.size, 0, none⟩)), (6, .slice (some ⟨g, 0, none⟩) (qs.length + 1) cap), (5, .int .u32 (known fs : Nat)), (10, .int .i64 (k : Int))])
      (fun k w' => j ≤ k ∧ k ≤ qs.length ∧ Below w.heap.size w w' ∧ (∃ x : Tg, w'.ownsRow w.heap.size 79 2 (.slice (some ⟨g, 0, none⟩) (qs.length + 1) cap) (qs.length + 1) (tcells (qs.take k ++ x :: qs.drop k))) ∧ Box w' w1.heap.size [.int .u32 u[i].1, sv] 79) (fun k => k - j) qs.length ⟨rfl, rfl, rfl, rfl, rfl, rfl, rfl, rfl, trivial⟩ ⟨hj, Nat.le_refl _, hw5, ⟨_, hrow6⟩, hb5⟩ ?_
    rintro k w6 ⟨hjk, hkq, hw6, ⟨x, hrow6⟩, hb6⟩
    repeat first|(with_reducible first|apply wc_seq|apply wc_region|apply wl_nil|apply qk_thn)|((with_reducible apply ws);exact rfl;exact rfl)
    have hll : (qs.take k ++ x :: qs.drop k).length = qs.length + 1 := by simp; omega
    by_cases hkj : j < k
    · refine wc_yes rfl (by simpa using hkj) ?_
      obtain ⟨k, rfl⟩ : ∃ k', k = k' + 1 := ⟨k - 1, by omega⟩
      repeat first|(with_reducible first|apply wc_seq|apply wc_region|apply qk_thn|apply wc_block|apply wc_skip)|((with_reducible apply ws);exact rfl;exact rfl)
      refine wl_sub' rfl rfl rfl (r := (k : Int)) (by rw [IntKind.wrap_i64]; omega) ?_
      refine wl_indexAddr rfl rfl es_tags rfl (by omega) ?_
      obtain ⟨g2, cap2, hde2, _, _, hca⟩ := Row.cells hrow6 (by omega)
      cases hde2
      have hcj := tcells_at hca (j := k) (by omega)
      rw [List.getElem_append_left (by simp; omega)] at hcj
      refine wl_loadAgg (cs := [.int .u32 ((qs.take (k + 1))[k]'(by simp; omega)).1.1, ((qs.take (k + 1))[k]'(by simp; omega)).2]) rfl ta_tag rfl (fun j v e => hcj.cell e) ?_
      refine wl_indexAddr rfl rfl es_tags rfl (by omega) ?_
      have hone2 : (([.int .u32 ((qs.take (k + 1))[k]'(by simp; omega)).1.1, ((qs.take (k + 1))[k]'(by simp; omega)).2] : List Value).all fun v => v.oneCell') = true := by
        obtain ⟨a3, c3, h3, _⟩ := (hat ((qs.take (k + 1))[k]'(by simp; omega)) (List.mem_of_mem_take (List.getElem_mem _))).shape
        rw [h3]; rfl
      refine wl_storeRow (sz := 2) (cs := [.int .u32 ((qs.take (k + 1))[k]'(by simp; omega)).1.1, ((qs.take (k + 1))[k]'(by simp; omega)).2]) hrow6 rfl rfl rfl rfl tz_tag hone2 (by omega) (fun w7 hrow7 hg7 hs7 => ?_)
      rw [tcells_set _ (by omega)] at hrow7
      have hsh := shift_step qs x (k := k) (by omega)
      rw [List.getElem_take] at hrow7
      rw [hsh] at hrow7
      repeat first|(with_reducible first|apply wc_region|apply wl_nil|apply qk_thn|apply qk_in)|((with_reducible apply ws);exact rfl;exact rfl)
      refine wl_sub' rfl rfl rfl (r := (k : Int)) (by rw [IntKind.wrap_i64]; omega) ?_
      repeat first|(with_reducible apply wl_nil)|((with_reducible apply ws);exact rfl;exact rfl)
      have hs6 := hw6.size
      exact qk_round k ⟨rfl, rfl, rfl, rfl, rfl, rfl, rfl, rfl, trivial⟩ ⟨by omega, by omega, hw6.trans (below_of hg7 hs6 (by intro q hq; simp at hq; omega)), ⟨_, hrow7⟩, hb6.kept hg7 (by simp; omega)⟩ (by omega)
    · have hkj' : k = j := by omega
      subst hkj'
      refine wc_no rfl (by simp) ?_
      repeat first|(with_reducible first|apply wc_region|apply qk_thn|apply wc_exit|apply qk_thn_exit|apply qk_in_exit|apply qk_round_exit)|((with_reducible apply ws);exact rfl;exact rfl)
      refine wl_loadBAgg (cs := [.int .u32 u[i].1, sv]) rfl ta_tag rfl hb6 ?_
      refine wl_indexAddr rfl rfl es_tags rfl (by omega) ?_
      refine wl_storeRow (sz := 2) (cs := [.int .u32 u[i].1, sv]) hrow6 rfl rfl rfl rfl tz_tag hone (by omega) (fun w7 hrow7 hg7 hs7 => ?_)
      have hset := tcells_set (qs.take k ++ x :: qs.drop k) (j := k) (by omega) ((u[i].1, u[i].2), sv)
      simp only [] at hset
      rw [hset, shift_end qs x _ hkq] at hrow7
      have hs6 := hw6.size
      repeat (with_reducible first|apply wc_region|apply wl_nil|apply qk_thn|apply qk_in)
      refine wl_add rfl rfl rfl (r := ((i + 1 : Nat) : Int)) (by rw [IntKind.wrap_i64]; omega) ?_
      repeat first|(with_reducible apply wl_nil)|((with_reducible apply ws);exact rfl;exact rfl)
      refine qk_round ⟨i + 1, .slice (some ⟨g, 0, none⟩) (qs.length + 1) cap, qs.take k ++ ((u[i].1, u[i].2), sv) :: qs.drop k⟩ ⟨rfl, rfl, rfl, rfl, rfl, trivial⟩ ⟨by simp only []; omega, hw6.trans (below_of hg7 hs6 (by intro q hq; simp at hq; omega)), ?_, ?_, ?_⟩ (by simp only []; omega)
      · simp only []
        rw [show (qs.take k ++ (((u[i].1, u[i].2), sv) : Tg) :: qs.drop k).length = qs.length + 1 from by simp; omega]
        exact hrow7
      · simp only []
        rw [hins, ← hsay, List.map_append, List.map_cons, List.map_take, List.map_drop]
      · intro q hq
        simp only [List.mem_append, List.mem_cons] at hq
        rcases hq with hq | rfl | hq
        · exact hat q (List.mem_of_mem_take hq)
        · exact hsv
        · exact hat q (List.mem_of_mem_drop hq)
  · refine wc_no rfl (by simpa using hlt) ?_
    repeat first|(with_reducible first|apply wc_seq|apply wc_region|apply wl_nil|apply qk_thn|apply wc_ret|apply wc_exit|apply qk_thn_exit|apply qk_in_exit|apply qk_round_exit)|((with_reducible apply ws);exact rfl;exact rfl)
    refine qk_ret1 rfl rfl ⟨_, rfl, hw1, ?_⟩
    have hin : i = min u.length Most := by omega
    refine ⟨qs, hrow, ?_, hat⟩
    rw [hsay, hin]
    show _ = (u.take Most).foldl (step (known fs)) []
    rw [take_min]
theorem fn_unknown (fv uv : Value) (fs : List Fld) (u : List (Nat × List UInt8)) (B : Nat) (w : World) (hB : B ≤ w.heap.size) (hf : Sq B w fv (fs.map fldD)) (hu : Sq B w uv (u.map tagD)) (ht : ∀ f ∈ fs, f.tag < 2147483647) (hl : fs.length ≤ 1000000) :
    Fn 39 [fv, uv] w fun r w' => Sq w'.heap.size w' r ((unknown fs u).map tagD) := by
  refine (fn_unknownR fv uv fs u B w hB hf hu ht hl).mono ?_
  rintro e w1 ⟨v, rfl, hw1, qs, hrow, hsay, hat⟩
  refine ⟨v, rfl, hw1, ?_⟩
  have hd : (unknown fs u).map tagD = qs.map fun q => tagD q.1 := by
    rw [← hsay, List.map_map]; rfl
  rw [hd]
  have hr := tcells_reps (B := w1.heap.size) (w := w1) qs (fun q hq => (hat q hq).below (hw1.mono hB) (by have := hw1.size; omega))
  exact Row.sq (ds := qs.map fun q => tagD q.1) (by simpa using hrow) hr (Nat.le_refl _)
end
end Go.Proofs.YtlmnaffhadeolaaGreatDoor

namespace Go.Proofs.YtlmnaffhadeolaaGreatDoor
mutual
def Tree.ok : Tree → Prop
 | .mk n s _ l u => s.length ≤ 9223372036854775807 ∧ (∀ kv ∈ u, kv.1 < 4294967296) ∧ Tree.oks l ∧ (-9223372036854775808 ≤ n ∧ n ≤ 9223372036854775807)
def Tree.oks : List Tree → Prop
 | [] => True
 | t :: l => t.ok ∧ Tree.oks l
end
mutual
def Fld.okb : Fld → Bool
 | .mk _ _ _ _ tag _ of sub => decide (tag < 2147483647) && decide (of ≠ 11) && Nat.ble sub.length 1000 && Fld.oksb sub
def Fld.oksb : List Fld → Bool
 | [] => true
 | f :: l => f.okb && Fld.oksb l
end
theorem Tree.oks_mem : ∀ {l : List Tree}, Tree.oks l → ∀ t ∈ l, t.ok
 | [], _, t, h => by cases h
 | x :: l, h, t, ht => by
  simp only [Tree.oks] at h
  rcases List.mem_cons.1 ht with rfl | h1
  ·exact h.1
  ·exact Tree.oks_mem h.2 t h1
theorem Tree.ok_none : Tree.none.ok := by simp [Tree.none, Tree.ok, Tree.oks]
theorem Tree.ok.at {t : Tree} (h : t.ok) (i : Nat) : (att t i).ok := by
 cases t with
 | mk n s nul l u =>
  simp only [Tree.ok] at h
  unfold att
  by_cases hi : i < l.length
  ·have : (Tree.mk n s nul l u).l.getD i Tree.none = l[i] := by simp [Tree.l, hi]
   rw [this]; exact Tree.oks_mem h.2.2.1 _ (List.getElem_mem _)
  ·have : (Tree.mk n s nul l u).l.getD i Tree.none = Tree.none := by simp [Tree.l, List.getD, List.getElem?_eq_none (by omega : l.length ≤ i)]
   rw [this]; exact Tree.ok_none
theorem Tree.ok.s {t : Tree} (h : t.ok) : t.s.length ≤ 9223372036854775807 := by cases t; simp only [Tree.ok] at h; exact h.1
theorem Tree.ok.u {t : Tree} (h : t.ok) : ∀ kv ∈ t.u, kv.1 < 4294967296 := by cases t; simp only [Tree.ok] at h; exact h.2.1
theorem Tree.ok.l {t : Tree} (h : t.ok) : ∀ x ∈ t.l, x.ok := by cases t; simp only [Tree.ok] at h; exact Tree.oks_mem h.2.2.1
theorem Tree.ok.n {t : Tree} (h : t.ok) : -9223372036854775808 ≤ t.n ∧ t.n ≤ 9223372036854775807 := by cases t; simp only [Tree.ok] at h; exact h.2.2.2
mutual
def Tree.small : Tree → Prop
 | .mk _ _ _ l u => (l.length ≤ 1000000000 ∧ u.length ≤ 1000000000) ∧ Tree.smalls l
def Tree.smalls : List Tree → Prop
 | [] => True
 | t :: l => t.small ∧ Tree.smalls l
end
theorem Tree.smalls_mem : ∀ {l : List Tree}, Tree.smalls l → ∀ t ∈ l, t.small
 | [], _, t, h => by cases h
 | x :: l, h, t, ht => by
  simp only [Tree.smalls] at h
  rcases List.mem_cons.1 ht with rfl | h1
  ·exact h.1
  ·exact Tree.smalls_mem h.2 t h1
theorem Tree.small.lens {t : Tree} (h : t.small) : t.l.length ≤ 1000000000 ∧ t.u.length ≤ 1000000000 := by cases t; simp only [Tree.small] at h; exact h.1
theorem Tree.small.l {t : Tree} (h : t.small) : ∀ x ∈ t.l, x.small := by cases t; simp only [Tree.small] at h; exact Tree.smalls_mem h.2
theorem Fld.oksb_mem : ∀ {l : List Fld}, Fld.oksb l = true → ∀ f ∈ l, f.okb = true
 | [], _, t, h => by cases h
 | x :: l, h, t, ht => by
  simp only [Fld.oksb, Bool.and_eq_true] at h
  rcases List.mem_cons.1 ht with rfl | h1
  ·exact h.1
  ·exact Fld.oksb_mem h.2 t h1
theorem Fld.okb_tag {f : Fld} (h : f.okb = true) : f.tag < 2147483647 := by
 cases f; simp only [Fld.okb, Bool.and_eq_true, decide_eq_true_eq] at h; exact h.1.1.1
theorem Fld.okb_sub {f : Fld} (h : f.okb = true) : Fld.oksb f.sub = true ∧ f.sub.length ≤ 1000 := by
 cases f; simp only [Fld.okb, Bool.and_eq_true, decide_eq_true_eq] at h; exact ⟨h.2, Nat.le_of_ble_eq_true h.1.2⟩
def fsok (fs : List Fld) : Bool := Fld.oksb fs && Nat.ble fs.length 1000
theorem fsok.sub {f : Fld} (h : f.okb = true) : fsok f.sub = true := by
 have := Fld.okb_sub h
 simp only [fsok, Bool.and_eq_true]
 exact ⟨this.1, Nat.ble_eq_true_of_le this.2⟩
theorem fsok.mem {fs : List Fld} (h : fsok fs = true) : ∀ f ∈ fs, f.okb = true := by
 simp only [fsok, Bool.and_eq_true] at h; exact Fld.oksb_mem h.1
theorem fsok.len {fs : List Fld} (h : fsok fs = true) : fs.length ≤ 1000 := by
 simp only [fsok, Bool.and_eq_true] at h; exact Nat.le_of_ble_eq_true h.2
theorem fsok.tag {fs : List Fld} (h : fsok fs = true) : ∀ f ∈ fs, f.tag < 2147483647 := fun f hf => Fld.okb_tag (fsok.mem h f hf)
end Go.Proofs.YtlmnaffhadeolaaGreatDoor

namespace Go.Proofs.YtlmnaffhadeolaaGreatDoor
open Go Go.RowKit
theorem Own.below {w w' : World} {B u8 : Nat} {d : Value} {xs : List UInt8} (h : Own w B u8 d xs) (hb : Below w.heap.size w w') : Own w' B u8 d xs := by
 refine h.kept (grown_of hb) ?_
 cases hd : d.ownBlock with
 | none => exact .inl rfl
 | some g => exact .inr (by simp)
theorem Own.bytes {w : World} {B u8 : Nat} {d : Value} {xs : List UInt8} (h : Own w B u8 d xs) : BytesAt w d xs := by
 by_cases hn : 0 < xs.length
 ·obtain ⟨g, cap, rfl, _, _, hc⟩ := Row.cells h hn
  exact .inr ⟨g, 0, cap, rfl, hc⟩
 ·have h0 : xs = [] := List.length_eq_zero_iff.1 (by omega)
  subst h0
  obtain ⟨hxl, ⟨rfl, _⟩ | ⟨g, cap, cur, rfl, hBg, hheap, hle, hcap, hcs, htake⟩⟩ := h
  ·exact .inl ⟨none, 0, rfl, rfl⟩
  ·exact .inr ⟨g, 0, cap, rfl, cur, u8, (0, 0), hheap, by simp [bv], by simp [bv]⟩
theorem zero_u8 : (Tryz.prog.info? 5).bind (·.zero) = some (.int .u8 0) := by kernel_rfl
def PartOK (fs : List Fld) : Prop := ∀ (flex : Bool) (ver : Int) (t : Tree) (B : Nat) (w : World) (fv : Value) (ts : List Value), t.ok → B ≤ w.heap.size → Sq B w fv (fs.map fldD) → Rep (Lo B) w (treeD t) ts → (wPart ver flex fs t).length ≤ lim →
 Fn 49 [fv, .int .i64 ver, .bool flex, .agg ts.toArray] w fun v w' => Own w' w.heap.size 5 v (wPart ver flex fs t)
def ValueOK (kind : Int) (sub : List Fld) : Prop := ∀ (null flex : Bool) (ver : Int) (t : Tree) (B : Nat) (w : World) (fv : Value) (ts : List Value), t.ok → B ≤ w.heap.size → Sq B w fv (sub.map fldD) → Rep (Lo B) w (treeD t) ts → (wVal kind flex null (wPart ver flex sub) t).length ≤ lim →
 Fn 132 [.int .i64 kind, fv, .bool null, .int .i64 ver, .bool flex, .agg ts.toArray] w fun v w' => Own w' w.heap.size 5 v (wVal kind flex null (wPart ver flex sub) t)
def FieldOK (f : Fld) : Prop := ∀ (flex : Bool) (ver : Int) (t : Tree) (B : Nat) (w : World) (cs ts : List Value), t.ok → B ≤ w.heap.size → Rep (Lo B) w (fldD f) cs → Rep (Lo B) w (treeD t) ts → (wField ver flex f t).length ≤ lim →
 Fn 80 [.agg cs.toArray, .int .i64 ver, .bool flex, .agg ts.toArray] w fun v w' => Own w' w.heap.size 5 v (wField ver flex f t)
theorem whole_map (s : List UInt8) : (s.map byteD).take Most = (whole s).map byteD := by simp [whole]
theorem width_le (k : Int) : width k ≤ 8 := by
 unfold width
 split
 ·omega
 ·split
  ·omega
  ·split <;> omega
section
set_option maxRecDepth 100000
theorem value_of (kind : Int) (sub : List Fld) (hp : PartOK sub) : ValueOK kind sub := by
 intro null flex ver t B w fv ts hok hB hf ht hlim
 obtain ⟨sv, lv, uv, rfl, hs, _, _⟩ := tree_cells ht
 obtain ⟨sa, sc, rfl, _⟩ := hs.shape
 refine enter Tryz.func132 rfl Tryz.ntmps132 rfl ?_
 repeat (with_reducible first|apply wc_seq|apply wc_region)
 refine wl_box1 rfl rfl rfl (fun w1 hb hg hsz => ?_)
 have hw1 : Below w.heap.size w w1 := below_of hg (Nat.le_refl _) (by simp)
 have hB1 : B ≤ w1.heap.size := by omega
 repeat first|(with_reducible first|apply wc_seq|apply wc_region|apply wl_nil|apply qk_thn|apply wc_block)|((with_reducible apply ws);exact rfl;exact rfl)
 by_cases h0 : kind = 0
 ·subst h0
  refine wc_yes rfl (by decide) ?_
  repeat first|(with_reducible first|apply wc_seq|apply wc_region)|((with_reducible apply ws);exact rfl;exact rfl)
  refine wl_loadB rfl to_i64 rfl hb rfl ?_
  refine wl_and rfl rfl rfl (and1 t.n) ?_
  refine wl_conv .u8 rfl ti_l64 ti_u8 rfl (wrap_bit _) ?_
  refine wl_lit tb_bytes rfl (ys := [lowByte (t.n % 2)]) rfl rfl rfl rfl (fun w2 ho hb2 => ?_)
  repeat first|(with_reducible first|apply wl_nil|apply qk_thn|apply wc_ret|apply qk_thn_ret|apply qk_in_ret)|((with_reducible apply ws);exact rfl;exact rfl)
  exact qk_ret1 rfl rfl ⟨_, rfl, hw1.trans (hb2.mono (by omega)), by simpa [wVal] using ho.mono (by omega)⟩
 ·refine wc_no rfl (by simpa using h0) ?_
  repeat first|(with_reducible first|apply wc_seq|apply wc_region|apply wl_nil|apply qk_thn)|((with_reducible apply ws);exact rfl;exact rfl)
  by_cases h7 : kind = 7
  ·subst h7
   refine wc_yes rfl (by decide) ?_
   repeat (with_reducible first|apply wc_seq|apply wc_region)
   refine wl_makeB (n := 16) tb_bytes zero_u8 rfl rfl (B := w1.heap.size) (Nat.le_refl _) (fun w2 ho2 hg2 => ?_)
   repeat first|(with_reducible first|apply wc_seq|apply wc_region|apply wl_nil|apply qk_thn)|((with_reducible apply ws);exact rfl;exact rfl)
   have hb2 := hb.kept hg2 (by simp)
   refine wl_loadB rfl to_bytes rfl hb2 rfl ?_
   have hw2 : Below w.heap.size w w2 := hw1.trans (below_of hg2 (by omega) (by simp))
   refine wl_copyB tb_bytes rfl rfl rfl ho2 rfl (hs.below (hw2.mono hB) (Nat.le_refl _)).bytes (fun w3 ho3 hg3 => ?_)
   repeat first|(with_reducible first|apply wc_seq|apply wc_region|apply wl_nil|apply qk_thn|apply wc_ret|apply qk_thn_ret|apply qk_in_ret)|((with_reducible apply ws);exact rfl;exact rfl)
   refine qk_ret1 rfl rfl ⟨_, rfl, hw2.trans (below_of hg3 (by have := hw2.size; omega) (by intro k hk; simp at hk; omega)), ?_⟩
   have e : sixteen t.s = t.s.take 16 ++ (List.replicate 16 (0 : UInt8)).drop (min t.s.length 16) := by
    unfold sixteen
    rw [List.take_append]
    by_cases h : 16 ≤ t.s.length
    ·rw [Nat.min_eq_right h, List.drop_of_length_le (by simp), show 16 - t.s.length = 0 from by omega]; rfl
    ·rw [Nat.min_eq_left (by omega), List.take_replicate, List.drop_replicate, Nat.min_eq_left (by omega)]
   have e7 : wVal 7 flex null (wPart ver flex sub) t = sixteen t.s := by simp [wVal]
   rw [e7, e]
   exact ho3.mono (by omega)
  ·refine wc_no rfl (by simpa using h7) ?_
   repeat first|(with_reducible first|apply wc_seq|apply wc_region|apply wl_nil|apply qk_thn)|((with_reducible apply ws);exact rfl;exact rfl)
   by_cases h8 : kind = 8
   ·subst h8
    have e8 : wVal 8 flex null (wPart ver flex sub) t = counted flex null (if null then [] else whole t.s).length 2 ++ (if null then [] else whole t.s) := by simp [wVal]
    rw [e8] at hlim ⊢
    refine wc_yes rfl (by decide) ?_
    repeat first|(with_reducible first|apply wc_seq|apply wc_region)|((with_reducible apply ws);exact rfl;exact rfl)
    refine wl_loadB rfl to_bytes rfl hb rfl ?_
    have hs1 := hs.below (hw1.mono hB) (Nat.le_refl _)
    refine wl_call rfl (by kernel_rfl) rfl ((fn_whole _ _ _ _ hs1).mono ?_)
    rintro e w2 ⟨v, rfl, hb2, rfl, hsq⟩
    refine ⟨v, rfl, ?_⟩
    rw [whole_map] at hsq
    have hby := hsq.bytes
    obtain ⟨a3, c3, rfl⟩ := hby.shape
    cases null
    ·simp only [Bool.false_eq_true, if_false] at hlim ⊢
     repeat first|(with_reducible first|apply wc_seq|apply wc_region|apply wl_nil|apply qk_thn)|((with_reducible apply ws);exact rfl;exact rfl)
     refine wc_no rfl rfl ?_
     repeat first|(with_reducible first|apply wc_seq|apply wc_region|apply qk_thn|apply wc_skip)|((with_reducible apply ws);exact rfl;exact rfl)
     have hwl : (whole t.s).length ≤ 32767 := by simp [whole, Most]; omega
     refine wl_call rfl (by kernel_rfl) rfl ((fn_counted flex false (whole t.s).length 2 (by omega) (by omega) w2).mono ?_)
     rintro e w3 ⟨v, rfl, hb3, ho3⟩
     refine ⟨v, rfl, ?_⟩
     repeat ((with_reducible apply ws);exact rfl;exact rfl)
     refine wl_appSl tb_bytes tb_bytes rfl rfl rfl (hby.below hb3) ho3 hb3.size (by simpa using hlim) (fun d' w4 ho4 hg4 => ?_)
     repeat first|(with_reducible first|apply wl_nil|apply qk_thn|apply wc_ret|apply qk_thn_ret|apply qk_in_ret)|((with_reducible apply ws);exact rfl;exact rfl)
     exact qk_ret1 rfl rfl ⟨_, rfl, hw1.trans ((hb3.mono (by omega)).trans (hg4.below (by have := hb3.size; omega) (fun g hg => by have := ho3.ge g hg; omega))), ho4.mono (by omega)⟩
    ·simp only [if_true] at hlim ⊢
     repeat first|(with_reducible first|apply wc_seq|apply wc_region|apply wl_nil|apply qk_thn)|((with_reducible apply ws);exact rfl;exact rfl)
     refine wc_yes rfl rfl ?_
     repeat first|(with_reducible first|apply wc_seq|apply wc_region|apply wl_nil|apply qk_thn)|((with_reducible apply ws);exact rfl;exact rfl)
     refine wl_call rfl (by kernel_rfl) rfl ((fn_counted flex true 0 2 (by omega) (by omega) w2).mono ?_)
     rintro e w3 ⟨v, rfl, hb3, ho3⟩
     refine ⟨v, rfl, ?_⟩
     repeat ((with_reducible apply ws);exact rfl;exact rfl)
     refine wl_appSl (ys := []) tb_bytes tb_bytes rfl rfl rfl (.inl ⟨none, 0, rfl, rfl⟩) ho3 hb3.size (by simpa using hlim) (fun d' w4 ho4 hg4 => ?_)
     repeat first|(with_reducible first|apply wl_nil|apply qk_thn|apply wc_ret|apply qk_thn_ret|apply qk_in_ret)|((with_reducible apply ws);exact rfl;exact rfl)
     exact qk_ret1 rfl rfl ⟨_, rfl, hw1.trans ((hb3.mono (by omega)).trans (hg4.below (by have := hb3.size; omega) (fun g hg => by have := ho3.ge g hg; omega))), ho4.mono (by omega)⟩
   ·refine wc_no rfl (by simpa using h8) ?_
    repeat first|(with_reducible first|apply wc_seq|apply wc_region|apply wl_nil|apply qk_thn)|((with_reducible apply ws);exact rfl;exact rfl)
    by_cases h9 : kind = 9
    ·subst h9
     have e9 : wVal 9 flex null (wPart ver flex sub) t = counted flex null (if null then [] else whole t.s).length 4 ++ (if null then [] else whole t.s) := by simp [wVal]
     rw [e9] at hlim ⊢
     refine wc_yes rfl (by decide) ?_
     repeat first|(with_reducible first|apply wc_seq|apply wc_region)|((with_reducible apply ws);exact rfl;exact rfl)
     refine wl_loadB rfl to_bytes rfl hb rfl ?_
     have hs1 := hs.below (hw1.mono hB) (Nat.le_refl _)
     refine wl_call rfl (by kernel_rfl) rfl ((fn_whole _ _ _ _ hs1).mono ?_)
     rintro e w2 ⟨v, rfl, hb2, rfl, hsq⟩
     refine ⟨v, rfl, ?_⟩
     rw [whole_map] at hsq
     have hby := hsq.bytes
     obtain ⟨a3, c3, rfl⟩ := hby.shape
     cases null
     ·simp only [Bool.false_eq_true, if_false] at hlim ⊢
      repeat first|(with_reducible first|apply wc_seq|apply wc_region|apply wl_nil|apply qk_thn)|((with_reducible apply ws);exact rfl;exact rfl)
      refine wc_no rfl rfl ?_
      repeat first|(with_reducible first|apply wc_seq|apply wc_region|apply qk_thn|apply wc_skip)|((with_reducible apply ws);exact rfl;exact rfl)
      have hwl : (whole t.s).length ≤ 32767 := by simp [whole, Most]; omega
      refine wl_call rfl (by kernel_rfl) rfl ((fn_counted flex false (whole t.s).length 4 (by omega) (by omega) w2).mono ?_)
      rintro e w3 ⟨v, rfl, hb3, ho3⟩
      refine ⟨v, rfl, ?_⟩
      repeat ((with_reducible apply ws);exact rfl;exact rfl)
      refine wl_appSl tb_bytes tb_bytes rfl rfl rfl (hby.below hb3) ho3 hb3.size (by simpa using hlim) (fun d' w4 ho4 hg4 => ?_)
      repeat first|(with_reducible first|apply wl_nil|apply qk_thn|apply wc_ret|apply qk_thn_ret|apply qk_in_ret)|((with_reducible apply ws);exact rfl;exact rfl)
      exact qk_ret1 rfl rfl ⟨_, rfl, hw1.trans ((hb3.mono (by omega)).trans (hg4.below (by have := hb3.size; omega) (fun g hg => by have := ho3.ge g hg; omega))), ho4.mono (by omega)⟩
     ·simp only [if_true] at hlim ⊢
      repeat first|(with_reducible first|apply wc_seq|apply wc_region|apply wl_nil|apply qk_thn)|((with_reducible apply ws);exact rfl;exact rfl)
      refine wc_yes rfl rfl ?_
      repeat first|(with_reducible first|apply wc_seq|apply wc_region|apply wl_nil|apply qk_thn)|((with_reducible apply ws);exact rfl;exact rfl)
      refine wl_call rfl (by kernel_rfl) rfl ((fn_counted flex true 0 4 (by omega) (by omega) w2).mono ?_)
      rintro e w3 ⟨v, rfl, hb3, ho3⟩
      refine ⟨v, rfl, ?_⟩
      repeat ((with_reducible apply ws);exact rfl;exact rfl)
      refine wl_appSl (ys := []) tb_bytes tb_bytes rfl rfl rfl (.inl ⟨none, 0, rfl, rfl⟩) ho3 hb3.size (by simpa using hlim) (fun d' w4 ho4 hg4 => ?_)
      repeat first|(with_reducible first|apply wl_nil|apply qk_thn|apply wc_ret|apply qk_thn_ret|apply qk_in_ret)|((with_reducible apply ws);exact rfl;exact rfl)
      exact qk_ret1 rfl rfl ⟨_, rfl, hw1.trans ((hb3.mono (by omega)).trans (hg4.below (by have := hb3.size; omega) (fun g hg => by have := ho3.ge g hg; omega))), ho4.mono (by omega)⟩
    ·refine wc_no rfl (by simpa using h9) ?_
     repeat first|(with_reducible first|apply wc_seq|apply wc_region|apply wl_nil|apply qk_thn)|((with_reducible apply ws);exact rfl;exact rfl)
     by_cases h10 : kind = 10
     ·subst h10
      have e10 : wVal 10 flex null (wPart ver flex sub) t = wPart ver flex sub t := by simp [wVal]
      rw [e10] at hlim ⊢
      refine wc_yes rfl (by decide) ?_
      repeat first|(with_reducible first|apply wc_seq|apply wc_region)|((with_reducible apply ws);exact rfl;exact rfl)
      refine wl_loadBAgg (cs := [.int .i64 t.n, .slice sa (t.s.map byteD).length sc, .bool t.nul, lv, uv]) rfl ta_tree rfl hb ?_
      refine wl_call rfl (by kernel_rfl) rfl ((hp flex ver t B w1 _ _ hok hB1 (hf.below (hw1.mono hB) (Nat.le_refl _)) (ht.below (hw1.mono hB) (Nat.le_refl _)) hlim).mono ?_)
      rintro e w3 ⟨v, rfl, hb3, ho3⟩
      refine ⟨v, rfl, ?_⟩
      repeat first|(with_reducible first|apply wl_nil|apply qk_thn|apply wc_ret|apply qk_thn_ret|apply qk_in_ret)|((with_reducible apply ws);exact rfl;exact rfl)
      exact qk_ret1 rfl rfl ⟨_, rfl, hw1.trans (hb3.mono (by omega)), ho3.mono (by omega)⟩
     ·refine wc_no rfl (by simpa using h10) ?_
      repeat (with_reducible first|apply wc_seq|apply qk_thn|apply wc_skip|apply qk_in)
      have ed : wVal kind flex null (wPart ver flex sub) t = be (width kind) t.n := by simp [wVal, h0, h7, h8, h9, h10]
      rw [ed]
      have hbx : ∀ w', Below w1.heap.size w1 w' → Box w' w.heap.size [.int .i64 t.n, .slice sa (t.s.map byteD).length sc, .bool t.nul, lv, uv] 26 := fun w' h => hb.below h (by omega)
      refine wc_par [(0, .pointer (some ⟨w.heap.size, 0 + 0, none⟩)), (1, .int .i64 t.n), (2, .int .i64 kind)] [5, 4, 3]
       (fun vals w' => Below w1.heap.size w1 w' ∧ match vals with
        | [] => True
        | [v] => v = .int .i64 (width kind : Nat)
        | v :: _ => Own w' w1.heap.size 5 v (be (width kind) t.n))
       mixed rfl rfl rfl rfl rfl (by show ([0,1,2] : List Nat).Nodup; decide) rfl rfl (by decide) rfl rfl rfl rfl ⟨(Below.refl _ w1).drew, trivial⟩ ?_ ⟨?_, ?_, ?_, trivial⟩ ?_
      ·intro p hp vals w' hC a k
       simp only [List.mem_cons, List.not_mem_nil, or_false] at hp
       rcases hp with rfl | rfl | rfl
       ·exact gv rfl rfl (rn_fieldAddr k rfl fo_tree0)
       ·exact gv rfl rfl (rn_load k rfl to_i64 ((hbx _ hC.1).cell0 (i := 0) rfl))
       ·exact gv rfl rfl (rn_move k rfl)
      ·rintro vals w' hvl ⟨hb', hC⟩ a k
       match vals, hvl with
       | [v4, v3], _ => exact ⟨_, rfl, does_assign k rfl ⟨hb', hC⟩⟩
      ·rintro vals w' hvl ⟨hb', hC⟩ a k
       match vals, hvl with
       | [v3], _ =>
        simp only [] at hC
        subst hC
        have hwd := width_le kind
        exact ⟨_, rfl, does_call k rfl (by kernel_rfl) ((fn_fixed t.n (width kind) hwd w').mono (by rintro e w'' ⟨v, rfl, hb'', ho⟩; exact ⟨v, rfl, hb'.trans (hb''.mono hb'.size), ho.mono hb'.size⟩))⟩
      ·rintro vals w' hvl ⟨hb', hC⟩ a k
       match vals, hvl with
       | [], _ =>
        exact ⟨_, rfl, does_call k rfl (by kernel_rfl) ((fn_width kind w').mono (by rintro e w'' ⟨v, rfl, hb'', rfl, rfl⟩; exact ⟨_, rfl, hb', rfl⟩))⟩
      ·rintro vals w' hvl ⟨hb', hC⟩
       match vals, hvl with
       | [v5, v4, v3], _ =>
        refine qk_thn ?_
        repeat (with_reducible apply wc_ret)
        exact qk_ret1 rfl rfl ⟨_, rfl, hw1.trans (hb'.mono (by omega)), Own.mono hC (by omega)⟩
end
end Go.Proofs.YtlmnaffhadeolaaGreatDoor

namespace Go.Proofs.YtlmnaffhadeolaaGreatDoor
open Go Go.RowKit
theorem flatMap_take_le {α β : Type} (g : α → List β) (l : List α) (i : Nat) : ((l.take i).flatMap g).length ≤ (l.flatMap g).length := by
 have : l.flatMap g = (l.take i).flatMap g ++ (l.drop i).flatMap g := by rw [← List.flatMap_append, List.take_append_drop]
 rw [this, List.length_append]; omega
theorem flatMap_take_succ {α β : Type} (g : α → List β) (l : List α) {i : Nat} (hi : i < l.length) : (l.take (i + 1)).flatMap g = (l.take i).flatMap g ++ g l[i] := by
 rw [List.take_succ_eq_append_getElem hi, List.flatMap_append]; simp
structure FdS where
 i : Nat
 d : Value
section
set_option maxRecDepth 100000
theorem field_of (f : Fld) (hv : ∀ k, ValueOK k f.sub) (hp : PartOK f.sub) : FieldOK f := by
 intro flex ver t B w cs ts hok hB hf ht hlim
 obtain ⟨sv, rfl, hsub⟩ := fld_cells hf
 obtain ⟨sv2, lv, uv, rfl, hs, hl, hu⟩ := tree_cells ht
 obtain ⟨la, lc, rfl, _⟩ := hl.shape
 rw [wField_eq] at hlim ⊢
 refine enter Tryz.func80 rfl Tryz.ntmps80 rfl ?_
 repeat (with_reducible first|apply wc_seq|apply wc_region)
 refine wl_box1 rfl rfl rfl (fun w1 hb1 hg1 hs1 => wl_box1 rfl rfl rfl (fun w2 hb2 hg2 hs2 => ?_))
 have hb4 := hb1.kept hg2 (by simp)
 have hw2 : Below w.heap.size w w2 := (below_of hg1 (Nat.le_refl _) (by simp)).trans (below_of hg2 (by omega) (by simp))
 have hB2 : B ≤ w2.heap.size := by omega
 have hbt : ∀ w', Below w2.heap.size w2 w' → Box w' w1.heap.size [.int .i64 t.n, sv2, .bool t.nul, .slice la (t.l.map treeD).length lc, uv] 26 := fun w' h => hb2.below h (by omega)
 have hbf : ∀ w', Below w2.heap.size w2 w' → Box w' w.heap.size [.int .i64 f.kind, .int .i64 f.fr, .int .i64 f.upto, .int .i64 f.nul, .int .i64 f.tag, .int .i64 f.df, .int .i64 f.of, sv] 55 := fun w' h => hb4.below h (by omega)
 repeat first|(with_reducible first|apply wc_seq|apply wc_region|apply wl_nil|apply qk_thn)|((with_reducible apply ws);exact rfl;exact rfl)
 refine wl_loadBAgg (cs := [.int .i64 f.kind, .int .i64 f.fr, .int .i64 f.upto, .int .i64 f.nul, .int .i64 f.tag, .int .i64 f.df, .int .i64 f.of, sv]) rfl ta_fld rfl hb4 ?_
 repeat ((with_reducible apply ws);exact rfl;exact rfl)
 refine wl_loadBAgg (cs := [.int .i64 t.n, sv2, .bool t.nul, .slice la (t.l.map treeD).length lc, uv]) rfl ta_tree rfl hb2 ?_
 refine wl_call rfl (by kernel_rfl) rfl ((fn_null f ver t B w2 hB2 _ _ (hf.below (hw2.mono hB) (Nat.le_refl _)) (ht.below (hw2.mono hB) (Nat.le_refl _))).mono ?_)
 rintro e w3 ⟨v, rfl, hw3, rfl⟩
 refine ⟨_, rfl, ?_⟩
 have hB3 : B ≤ w3.heap.size := by have := hw3.size; omega
 have hw03 : Below w.heap.size w w3 := hw2.trans (hw3.mono (by omega))
 repeat first|(with_reducible first|apply wc_seq|apply wc_region|apply wl_nil|apply qk_thn)|((with_reducible apply ws);exact rfl;exact rfl)
 refine wl_loadB rfl to_int rfl (hbf _ hw3) rfl ?_
 repeat first|(with_reducible first|apply wl_nil|apply qk_thn)|((with_reducible apply ws);exact rfl;exact rfl)
 by_cases h11 : f.kind = 11
 ·refine wc_yes rfl (by simpa using h11) ?_
  rw [if_pos h11] at hlim ⊢
  repeat first|(with_reducible first|apply wc_seq|apply wc_region)|((with_reducible apply ws);exact rfl;exact rfl)
  refine wl_loadB rfl to_trees rfl (hbt _ hw3) rfl ?_
  have hl3 : Sq B w3 (.slice la (t.l.map treeD).length lc) (t.l.map treeD) := hl.below (hw03.mono hB) (Nat.le_refl _)
  refine wl_call rfl (by kernel_rfl) rfl ((fn_things _ _ _ _ hl3).mono ?_)
  rintro e w4 ⟨v, rfl, hb4', rfl, hsq⟩
  refine ⟨v, rfl, ?_⟩
  have hsq' : Sq B w4 v ((things t.l).map treeD) := by simpa [things] using hsq
  refine wl_assign rfl rfl (wl_nil (qk_thn ?_))
  refine wc_cut (α := Value) (fun x => [(10, x), (9, .bool (f.null ver t)), (7, .pointer (some ⟨w1.heap.size, 0, none⟩)), (4, .pointer (some ⟨w.heap.size, 0, none⟩)), (2, .bool flex), (1, .int .i64 ver)])
   (fun x w' => w' = w4 ∧ Sq B w4 x ((if f.null ver t then [] else things t.l).map treeD)) ?_ ?_
  ·repeat first|(with_reducible first|apply wc_seq|apply wc_region|apply wl_nil|apply qk_thn)|((with_reducible apply ws);exact rfl;exact rfl)
   cases hn : f.null ver t
   ·refine wc_no rfl rfl ?_
    repeat (with_reducible apply wc_skip)
    exact qk_cut v ⟨rfl, rfl, rfl, rfl, rfl, rfl, trivial⟩ ⟨rfl, by simpa using hsq'⟩
   ·refine wc_yes rfl rfl ?_
    repeat first|(with_reducible first|apply wc_region|apply wl_nil)|((with_reducible apply ws);exact rfl;exact rfl)
    exact qk_cut (.slice none 0 0) ⟨rfl, rfl, rfl, rfl, rfl, rfl, trivial⟩ ⟨rfl, by simp only [Sq, Rep]; exact ⟨none, 0, rfl, by simp, .inl (by simp)⟩⟩
  rintro x w5 ⟨rfl, hx⟩
  generalize hxl : (if f.null ver t then [] else things t.l) = xs at hx hlim ⊢
  have hxs : ∀ y ∈ xs, y.ok := by
   intro y hy; subst hxl
   split at hy
   ·cases hy
   ·exact hok.l y (List.mem_of_mem_take hy)
  have hxn : xs.length ≤ 32767 := by
   subst hxl; split
   ·simp
   ·simp only [things, Most, List.length_take]; omega
  obtain ⟨xa, xc, rfl, _⟩ := hx.shape
  rw [List.length_map] at *
  repeat first|(with_reducible first|apply wc_seq|apply wc_region)|((with_reducible apply ws);exact rfl;exact rfl)
  refine wl_call rfl (by kernel_rfl) rfl ((fn_counted flex (f.null ver t) xs.length 4 (by omega) (by omega) w5).mono ?_)
  rintro e w6 ⟨v6, rfl, hb6, ho6⟩
  refine ⟨v6, rfl, ?_⟩
  repeat first|(with_reducible first|apply wc_seq|apply wc_region|apply wl_nil|apply qk_thn|apply wc_block)|((with_reducible apply ws);exact rfl;exact rfl)
  have hw5 := hw3.size
  refine wc_loop (α := FdS) (fun s => [(31, .int .i64 (s.i : Int)), (30, .int .i64 (xs.length : Int)), (11, s.d), (10, .slice xa xs.length xc), (7, .pointer (some ⟨w1.heap.size, 0, none⟩)), (4, .pointer (some ⟨w.heap.size, 0, none⟩)), (2, .bool flex), (1, .int .i64 ver)])
   (fun s w' => s.i ≤ xs.length ∧ Below w5.heap.size w5 w' ∧ Own w' w5.heap.size 5 s.d (counted flex (f.null ver t) xs.length 4 ++ (xs.take s.i).flatMap (wVal f.of flex false (wPart ver flex f.sub)))) (fun s => xs.length - s.i) ⟨0, v6⟩ ⟨rfl, rfl, rfl, rfl, rfl, rfl, rfl, rfl, trivial⟩ ⟨Nat.zero_le _, hb6, by simpa using ho6⟩ ?_
  rintro ⟨i, d⟩ w7 ⟨hi, hw7, ho7⟩
  simp only [] at hi ho7
  change WC _ _ _ _ [(31, .int .i64 (i : Int)), (30, .int .i64 (xs.length : Int)), (11, d), (10, .slice xa xs.length xc), (7, .pointer (some ⟨w1.heap.size, 0, none⟩)), (4, .pointer (some ⟨w.heap.size, 0, none⟩)), (2, .bool flex), (1, .int .i64 ver)] _
  repeat first|(with_reducible first|apply wc_seq|apply wc_region|apply wl_nil|apply qk_thn)|((with_reducible apply ws);exact rfl;exact rfl)
  by_cases hlt : i < xs.length
  ·refine wc_yes rfl (by simpa using hlt) ?_
   repeat first|(with_reducible first|apply wc_seq|apply wc_region|apply wl_nil|apply qk_thn|apply wc_block|apply wc_skip)|((with_reducible apply ws);exact rfl;exact rfl)
   obtain ⟨b, off, c', cs, hv2, hbB, hcs, hlen, hr⟩ := hx.get (sz := 5) (i := i) (by intro d hd; obtain ⟨x, _, rfl⟩ := List.mem_map.1 hd; exact treeD_width x) (by simpa using hlt)
   simp only [Value.slice.injEq, List.length_map] at hv2
   obtain ⟨rfl, _, rfl⟩ := hv2
   simp only [List.getElem_map] at hr
   have hcsw : ∀ w', Below w5.heap.size w5 w' → CellsAt w' b (off + i * 5) cs := fun w' h => hcs.of_block (h.block b (by omega))
   have h25 : ∀ w', Below w5.heap.size w5 w' → Below w2.heap.size w2 w' := fun w' h => hw3.trans (h.mono hw5)
   have htk := flatMap_take_succ (wVal f.of flex false (wPart ver flex f.sub)) xs hlt
   have hle := flatMap_take_le (wVal f.of flex false (wPart ver flex f.sub)) xs (i + 1)
   rw [htk] at hle
   simp only [List.length_append] at hle hlim
   refine wc_par [(0, d), (1, .pointer (some ⟨w.heap.size, 0 + 6, none⟩)), (2, .int .i64 f.of), (3, .pointer (some ⟨w.heap.size, 0 + 7, none⟩)), (4, sv), (5, .int .i64 ver), (6, .bool flex), (7, .slice (some ⟨b, off, none⟩) xs.length xc), (8, .int .i64 (i : Int)), (9, .pointer (some ⟨b, off + i * 5, none⟩)), (10, .agg cs.toArray)] [13, 12, 11]
    (fun vals w' => Below w5.heap.size w5 w' ∧ match vals with
     | [] => w' = w7.drew
     | [v] => Below w7.heap.size w7 w' ∧ Own w' w7.heap.size 5 v (wVal f.of flex false (wPart ver flex f.sub) xs[i])
     | v :: _ => Own w' w5.heap.size 5 v (counted flex (f.null ver t) xs.length 4 ++ (xs.take (i + 1)).flatMap (wVal f.of flex false (wPart ver flex f.sub))))
    mixed rfl rfl rfl rfl rfl (by show ([0,1,2,3,4,5,6,7,8,9,10] : List Nat).Nodup; decide) rfl rfl (by decide) rfl rfl rfl rfl ⟨hw7.drew, rfl⟩ ?_ ⟨?_, ?_, ?_, trivial⟩ ?_
   ·intro p hp vals w' hC a k
    simp only [List.mem_cons, List.not_mem_nil, or_false] at hp
    rcases hp with rfl | rfl | rfl | rfl | rfl | rfl | rfl | rfl | rfl | rfl | rfl
    ·exact gv rfl rfl (rn_move k rfl)
    ·exact gv rfl rfl (rn_fieldAddr k rfl fo_fld6)
    ·exact gv rfl rfl (rn_load k rfl to_int ((hbf _ (h25 _ hC.1)).cell0 (i := 6) rfl))
    ·exact gv rfl rfl (rn_fieldAddr k rfl fo_fld7)
    ·exact gv rfl rfl (rn_load k rfl to_flds ((hbf _ (h25 _ hC.1)).cell0 (i := 7) rfl))
    ·exact gv rfl rfl (rn_move k rfl)
    ·exact gv rfl rfl (rn_move k rfl)
    ·exact gv rfl rfl (rn_move k rfl)
    ·exact gv rfl rfl (rn_move k rfl)
    ·exact gv rfl rfl (rn_indexAddr k rfl rfl es_trees hlt)
    ·exact gv rfl rfl (rn_loadAgg k rfl (by rw [hlen]; exact ta_tree) (fun j v e => (hcsw _ hC.1).cell e))
   ·rintro vals w' hvl ⟨hb', hC⟩ a k
    match vals, hvl with
    | [v12, v11], _ => exact ⟨_, rfl, does_assign k rfl ⟨hb', hC⟩⟩
   ·rintro vals w' hvl ⟨hb', hC⟩ a k
    match vals, hvl with
    | [v11], _ =>
     obtain ⟨hb7, hov⟩ := hC
     refine ⟨_, rfl, does_appSl k tb_bytes tb_bytes rfl rfl hov.bytes (ho7.below hb7) hb'.size (by simp only [List.length_append]; omega) (fun d' w'' ho'' hg'' => ⟨hb'.trans (hg''.below hb'.size ho7.ge), ?_⟩)⟩
     simp only []
     rw [htk, ← List.append_assoc]; exact ho''
   ·rintro vals w' hvl ⟨hb', hC⟩ a k
    match vals, hvl with
    | [], _ =>
     simp only [] at hC
     subst hC
     have hw70 := hw7.size
     exact ⟨_, rfl, does_call k rfl (by kernel_rfl) ((hv f.of false flex ver xs[i] w5.heap.size w7.drew _ _ (hxs _ (List.getElem_mem hlt)) hw70 (hsub.below (((hw03.trans (hw7.mono (by omega))).drew).mono hB) (by omega)) (Rep.below hr ((hw7.drew).mono (by omega)) (by omega)) (by omega)).mono (by rintro e w'' ⟨v, rfl, hb'', ho⟩; exact ⟨v, rfl, hb'.trans (hb''.mono hw70), (Below.refl _ w7).drew.trans hb'', ho⟩))⟩
   ·rintro vals w' hvl ⟨hb', hC⟩
    match vals, hvl with
    | [v13, v12, v11], _ =>
     refine qk_thn ?_
     repeat (with_reducible apply wc_region)
     refine wl_add rfl rfl rfl (r := ((i + 1 : Nat) : Int)) (by rw [IntKind.wrap_i64]; omega) ?_
     repeat first|(with_reducible apply wl_nil)|((with_reducible apply ws);exact rfl;exact rfl)
     exact qk_round ⟨i + 1, v13⟩ ⟨rfl, rfl, rfl, rfl, rfl, rfl, rfl, rfl, trivial⟩ ⟨by simp only []; omega, hb', hC⟩ (by simp only []; omega)
  ·refine wc_no rfl (by simpa using hlt) ?_
   repeat first|(with_reducible first|apply wc_seq|apply wc_region|apply wl_nil|apply qk_thn|apply wc_ret|apply wc_exit|apply qk_thn_ret|apply qk_thn_exit|apply qk_in_exit|apply qk_round_exit)|((with_reducible apply ws);exact rfl;exact rfl)
   refine qk_ret1 rfl rfl ⟨_, rfl, hw03.trans (hw7.mono (by omega)), ?_⟩
   rw [List.take_of_length_le (by omega)] at ho7
   exact ho7.mono (by omega)
 ·refine wc_no rfl (by simpa using h11) ?_
  rw [if_neg h11] at hlim ⊢
  refine wc_skip (qk_thn ?_)
  refine wc_cut (α := Unit) (fun _ => [(9, .bool (f.null ver t)), (7, .pointer (some ⟨w1.heap.size, 0, none⟩)), (4, .pointer (some ⟨w.heap.size, 0, none⟩)), (2, .bool flex), (1, .int .i64 ver)]) (fun _ w' => w' = w3 ∧ ¬ (f.kind = 10 ∧ 0 ≤ f.nul)) ?_ ?_
  ·repeat first|(with_reducible first|apply wc_seq|apply wc_region)|((with_reducible apply ws);exact rfl;exact rfl)
   refine wl_loadB rfl to_int rfl (hbf _ hw3) rfl ?_
   repeat ((with_reducible apply ws);exact rfl;exact rfl)
   by_cases h10 : f.kind = 10
   ·have e10 : (f.kind == 10) = true := by simpa using h10
    rw [e10]
    repeat first|((with_reducible apply ws);exact rfl;exact rfl)|((with_reducible apply wl_yes);exact rfl;exact rfl;exact rfl)
    refine wl_loadB rfl to_int rfl (hbf _ hw3) rfl ?_
    repeat first|(with_reducible first|apply wl_nil|apply qk_thn)|((with_reducible apply ws);exact rfl;exact rfl)|((with_reducible apply wl_yes);exact rfl;exact rfl;exact rfl)
    by_cases hnl : 0 ≤ f.nul
    ·refine wc_yes rfl (by simpa using hnl) ?_
     rw [if_pos ⟨h10, hnl⟩] at hlim ⊢
     repeat first|(with_reducible first|apply wc_seq|apply wc_region|apply wl_nil|apply qk_thn)|((with_reducible apply ws);exact rfl;exact rfl)
     cases hn : f.null ver t
     ·refine wc_no rfl rfl ?_
      rw [hn] at hlim
      simp only [Bool.false_eq_true, if_false] at hlim ⊢
      repeat (with_reducible first|apply wc_seq|apply qk_thn|apply wc_skip)
      refine wc_par [(1, .pointer (some ⟨w.heap.size, 0 + 7, none⟩)), (2, sv), (3, .int .i64 ver), (4, .bool flex), (5, .agg ([.int .i64 t.n, sv2, .bool t.nul, .slice la (t.l.map treeD).length lc, uv] : List Value).toArray)] [8, 7, 6, 0]
       (fun vals w' => Below w3.heap.size w3 w' ∧ match vals with
        | [] => True
        | [v] => Own w' w3.heap.size 5 v (be 1 1)
        | [v, v0] => Own w' w3.heap.size 5 v0 (be 1 1) ∧ Own w' w3.heap.size 5 v (wPart ver flex f.sub t)
        | v :: _ => Own w' w3.heap.size 5 v (be 1 1 ++ wPart ver flex f.sub t))
       mixed rfl rfl rfl rfl rfl (by show ([1,2,3,4,5] : List Nat).Nodup; decide) rfl rfl (by decide) rfl rfl rfl rfl ⟨(Below.refl _ w3).drew, trivial⟩ ?_ ⟨?_, ?_, ?_, ?_, trivial⟩ ?_
      ·intro p hp vals w' hC a k
       simp only [List.mem_cons, List.not_mem_nil, or_false] at hp
       have hb2' : Below w2.heap.size w2 w' := hw3.trans (hC.1.mono hw3.size)
       rcases hp with rfl | rfl | rfl | rfl | rfl
       ·exact gv rfl rfl (rn_fieldAddr k rfl fo_fld7)
       ·exact gv rfl rfl (rn_load k rfl to_flds ((hbf _ hb2').cell0 (i := 7) rfl))
       ·exact gv rfl rfl (rn_move k rfl)
       ·exact gv rfl rfl (rn_move k rfl)
       ·exact gv rfl rfl (rn_loadBAgg k rfl ta_tree (hbt _ hb2'))
      ·rintro vals w' hvl ⟨hb', hC⟩ a k
       match vals, hvl with
       | [v7, v6, v0], _ => exact ⟨_, rfl, does_assign k rfl ⟨hb', hC⟩⟩
      ·rintro vals w' hvl ⟨hb', hC⟩ a k
       match vals, hvl with
       | [v6, v0], _ =>
        obtain ⟨ho0, ho6⟩ := hC
        exact ⟨_, rfl, does_appSl k tb_bytes tb_bytes rfl rfl ho6.bytes ho0 hb'.size (by simpa using hlim) (fun d' w'' ho'' hg'' => ⟨hb'.trans (hg''.below hb'.size ho0.ge), ho''⟩)⟩
      ·rintro vals w' hvl ⟨hb', hC⟩ a k
       match vals, hvl with
       | [v0], _ =>
        simp only [] at hC
        have hs3 := hb'.size
        refine ⟨_, rfl, does_call k rfl (by kernel_rfl) ((hp flex ver t w3.heap.size w' _ _ hok hs3 (hsub.below ((hw03.trans (hb'.mono hw03.size)).mono hB) (by omega)) (Rep.below ht ((hw03.trans (hb'.mono hw03.size)).mono hB) (by omega)) (by simp only [List.length_append] at hlim; omega)).mono ?_)⟩
        rintro e w'' ⟨v, rfl, hb'', ho⟩
        exact ⟨v, rfl, hb'.trans (hb''.mono hs3), Own.below hC hb'', ho.mono hs3⟩
      ·rintro vals w' hvl ⟨hb', hC⟩ a k
       match vals, hvl with
       | [], _ =>
        exact ⟨_, rfl, does_call k rfl (by kernel_rfl) ((fn_fixed 1 1 (by omega) w').mono (by rintro e w'' ⟨v, rfl, hb'', ho⟩; exact ⟨v, rfl, hb'.trans (hb''.mono hb'.size), ho.mono hb'.size⟩))⟩
      ·rintro vals w' hvl ⟨hb', hC⟩
       match vals, hvl with
       | [v8, v7, v6, v0], _ =>
        refine qk_thn ?_
        repeat (with_reducible first|apply wc_ret|apply qk_round_ret)
        exact qk_ret1 rfl rfl ⟨_, rfl, hw03.trans (hb'.mono (by have := hw03.size; omega)), Own.mono hC (by have := hw03.size; omega)⟩
     ·refine wc_yes rfl rfl ?_
      repeat (with_reducible first|apply wc_seq|apply wc_region)
      refine wl_call rfl (by kernel_rfl) rfl ((fn_fixed (-1) 1 (by omega) w3).mono ?_)
      rintro e w' ⟨v, rfl, hb, ho⟩
      refine ⟨v, rfl, ?_⟩
      repeat first|(with_reducible first|apply wl_nil|apply qk_thn|apply wc_ret|apply qk_thn_ret|apply qk_round_ret)|((with_reducible apply ws);exact rfl;exact rfl)
      exact qk_ret1 rfl rfl ⟨_, rfl, hw03.trans (hb.mono hw03.size), by simpa using ho.mono hw03.size⟩
    ·refine wc_no rfl (by simpa using hnl) ?_
     repeat (with_reducible apply wc_skip)
     exact qk_cut () ⟨rfl, rfl, rfl, rfl, rfl, trivial⟩ ⟨rfl, fun h => hnl h.2⟩
   ·have e10 : (f.kind == 10) = false := by simpa using h10
    rw [e10]
    repeat first|(with_reducible first|apply wl_nil|apply qk_thn)|((with_reducible apply ws);exact rfl;exact rfl)|((with_reducible apply wl_no);exact rfl;exact rfl;exact rfl;exact rfl)
    refine wc_no rfl rfl ?_
    repeat (with_reducible apply wc_skip)
    exact qk_cut () ⟨rfl, rfl, rfl, rfl, rfl, trivial⟩ ⟨rfl, fun h => h10 h.1⟩
  rintro _ w4 ⟨rfl, hno⟩
  rw [if_neg hno] at hlim ⊢
  repeat first|(with_reducible first|apply wc_seq|apply wc_region)|((with_reducible apply ws);exact rfl;exact rfl)
  refine wl_loadB rfl to_int rfl (hbf _ hw3) rfl ?_
  repeat ((with_reducible apply ws);exact rfl;exact rfl)
  refine wl_loadB rfl to_flds rfl (hbf _ hw3) rfl ?_
  repeat ((with_reducible apply ws);exact rfl;exact rfl)
  refine wl_loadBAgg (cs := [.int .i64 t.n, sv2, .bool t.nul, .slice la (t.l.map treeD).length lc, uv]) rfl ta_tree rfl (hbt _ hw3) ?_
  refine wl_call rfl (by kernel_rfl) rfl ((hv f.kind (f.null ver t) flex ver t B w4 _ _ hok hB3 (hsub.below (hw03.mono hB) (Nat.le_refl _)) (Rep.below ht (hw03.mono hB) (Nat.le_refl _)) hlim).mono ?_)
  rintro e w' ⟨v, rfl, hb, ho⟩
  refine ⟨v, rfl, ?_⟩
  repeat first|(with_reducible first|apply wl_nil|apply qk_thn|apply wc_ret)|((with_reducible apply ws);exact rfl;exact rfl)
  exact qk_ret1 rfl rfl ⟨_, rfl, hw03.trans (hb.mono hw03.size), ho.mono hw03.size⟩
end
end Go.Proofs.YtlmnaffhadeolaaGreatDoor

namespace Go.Proofs.YtlmnaffhadeolaaGreatDoor
open Go Go.RowKit
theorem usual_eq (f : Fld) (t : Tree) : usual f t =
  if f.kind = 0 then decide (t.n % 2 = f.df)
  else if f.kind = 7 then (t.s.take 16).all (· == 0)
  else if f.kind = 8 ∨ f.kind = 9 then (if 0 ≤ f.nul then t.nul else t.s.isEmpty)
  else if f.kind = 11 then t.l.isEmpty
  else if f.kind = 10 then usuals f.sub 0 t && (unknown f.sub t.u).isEmpty
  else be (width f.kind) t.n == be (width f.kind) f.df := by
 cases f
 simp only [usual, Fld.kind, Fld.nul, Fld.df, Fld.sub]
 rfl
theorem usuals_drop (fs : List Fld) (t : Tree) {i : Nat} (hi : i < fs.length) : usuals (fs.drop i) i t = (usual fs[i] (att t i) && usuals (fs.drop (i + 1)) (i + 1) t) := by
 rw [List.drop_eq_getElem_cons hi]
 simp only [usuals]
def UsualOK (f : Fld) : Prop := ∀ (t : Tree) (B : Nat) (w : World) (cs ts : List Value), t.ok → B ≤ w.heap.size → Rep (Lo B) w (fldD f) cs → Rep (Lo B) w (treeD t) ts →
 Fn 36 [.agg cs.toArray, .agg ts.toArray] w fun v _ => v = .bool (usual f t)
section
variable {P : Program} {N : Nat} {L : Sl} {a : Act} {w : World} {d : Option Nat} {ty : TypeId} {pos : String} {aft : Array Edge} {g : Option (Nat × Bool)}
theorem does_not {x : Operand} {t : TypeId} {b : Bool} {R : Value → World → Prop} (k : Kn N a L) (hx : ev L x = some (.bool b)) (h : R (.bool (!b)) w) : Does P ⟨d, .unOp .not t x, ty, pos, aft, g⟩ a w R := does_of (rn_not k hx) h
end
section
set_option maxRecDepth 100000
theorem usual_of (f : Fld) (hsubOK : fsok f.sub = true) (hu : ∀ g ∈ f.sub, UsualOK g) : UsualOK f := by
 intro t B w cs ts hok hB hf ht
 obtain ⟨sv, rfl, hsub⟩ := fld_cells hf
 obtain ⟨sv2, lv, uv, rfl, hs, hl, huu⟩ := tree_cells ht
 obtain ⟨la, lc, rfl, _⟩ := hl.shape
 obtain ⟨sa, sc, rfl, _⟩ := hs.shape
 rw [usual_eq]
 refine enter Tryz.func36 rfl Tryz.ntmps36 rfl ?_
 repeat (with_reducible first|apply wc_seq|apply wc_region)
 refine wl_box1 rfl rfl rfl (fun w1 hb1 hg1 hs1 => wl_box1 rfl rfl rfl (fun w2 hb2 hg2 hs2 => ?_))
 have hb4 := hb1.kept hg2 (by simp)
 have hw2 : Below w.heap.size w w2 := (below_of hg1 (Nat.le_refl _) (by simp)).trans (below_of hg2 (by omega) (by simp))
 have hB2 : B ≤ w2.heap.size := by omega
 have hbt : ∀ w', Below w2.heap.size w2 w' → Box w' w1.heap.size [.int .i64 t.n, .slice sa (t.s.map byteD).length sc, .bool t.nul, .slice la (t.l.map treeD).length lc, uv] 26 := fun w' h => hb2.below h (by omega)
 have hbf : ∀ w', Below w2.heap.size w2 w' → Box w' w.heap.size [.int .i64 f.kind, .int .i64 f.fr, .int .i64 f.upto, .int .i64 f.nul, .int .i64 f.tag, .int .i64 f.df, .int .i64 f.of, sv] 55 := fun w' h => hb4.below h (by omega)
 repeat first|(with_reducible first|apply wc_seq|apply wc_region|apply wl_nil|apply qk_thn)|((with_reducible apply ws);exact rfl;exact rfl)
 refine wl_loadB rfl to_int rfl hb4 rfl ?_
 repeat first|(with_reducible first|apply wc_seq|apply wc_region|apply wl_nil|apply qk_thn|apply wc_block)|((with_reducible apply ws);exact rfl;exact rfl)
 by_cases h0 : f.kind = 0
 ·refine wc_yes rfl (by simpa using h0) ?_
  rw [if_pos h0]
  repeat first|(with_reducible first|apply wc_seq|apply wc_region)|((with_reducible apply ws);exact rfl;exact rfl)
  refine wl_loadB rfl to_i64 rfl hb2 rfl ?_
  refine wl_and rfl rfl rfl (and1 t.n) ?_
  repeat ((with_reducible apply ws);exact rfl;exact rfl)
  refine wl_loadB rfl to_i64 rfl hb4 rfl ?_
  repeat first|(with_reducible first|apply wl_nil|apply qk_thn|apply wc_ret|apply qk_thn_ret|apply qk_in_ret)|((with_reducible apply ws);exact rfl;exact rfl)
  exact qk_ret1 rfl rfl ⟨_, rfl, hw2, by rw [Bool.beq_eq_decide_eq]⟩
 ·refine wc_no rfl (by simpa using h0) ?_
  rw [if_neg h0]
  repeat first|(with_reducible first|apply wc_seq|apply wc_region|apply wl_nil|apply qk_thn)|((with_reducible apply ws);exact rfl;exact rfl)
  by_cases h7 : f.kind = 7
  ·refine wc_yes rfl (by simpa using h7) ?_
   rw [if_pos h7]
   repeat first|(with_reducible first|apply wc_seq|apply wc_region)|((with_reducible apply ws);exact rfl;exact rfl)
   refine wl_loadB rfl to_bytes rfl hb2 rfl ?_
   repeat first|(with_reducible first|apply wl_nil|apply qk_thn|apply wc_block)|((with_reducible apply ws);exact rfl;exact rfl)
   rw [List.length_map] at *
   refine wc_loop (α := Nat) (fun i => [(24, .int .i64 (i : Int)), (23, .int .i64 (t.s.length : Int)), (22, .slice sa t.s.length sc)]) (fun i w' => i ≤ t.s.length ∧ ((t.s.take i).take 16).all (· == 0) = true ∧ Below w2.heap.size w2 w') (fun i => t.s.length - i) 0 ⟨rfl, rfl, rfl, trivial⟩ ⟨Nat.zero_le _, rfl, Below.refl _ _⟩ ?_
   rintro i w3 ⟨hi, hall, hw3⟩
   have hsl := hok.s
   repeat first|(with_reducible first|apply wc_seq|apply wc_region|apply wl_nil|apply qk_thn)|((with_reducible apply ws);exact rfl;exact rfl)
   by_cases hlt : i < t.s.length
   ·refine wc_yes rfl (by simpa using hlt) ?_
    repeat first|(with_reducible first|apply wc_seq|apply wc_region|apply qk_thn|apply wc_block|apply wc_skip)|((with_reducible apply ws);exact rfl;exact rfl)
    have hs3 : Sq B w3 (.slice sa t.s.length sc) (t.s.map byteD) := hs.below ((hw2.trans (hw3.mono (by omega))).mono hB) (Nat.le_refl _)
    obtain ⟨b1, o1, c1, hv1, hc1⟩ := hs3.bytes.get hlt
    simp only [Value.slice.injEq] at hv1
    obtain ⟨rfl, _, rfl⟩ := hv1
    refine wl_indexAddr rfl rfl es_bytes rfl hlt ?_
    refine wl_load rfl to_u8 rfl hc1 ?_
    repeat first|(with_reducible first|apply wc_seq|apply wc_region|apply wl_nil|apply qk_thn)|((with_reducible apply ws);exact rfl;exact rfl)
    by_cases h16 : i < 16
    ·have e16 : decide ((i : Int) < 16) = true := by simp; omega
     rw [e16]
     repeat first|(with_reducible first|apply wl_nil|apply qk_thn)|((with_reducible apply ws);exact rfl;exact rfl)|((with_reducible apply wl_yes);exact rfl;exact rfl;exact rfl)
     by_cases hz : t.s[i] = 0
     ·refine wc_no rfl (by rw [hz]; rfl) ?_
      repeat (with_reducible first|apply wc_region|apply qk_thn|apply wc_skip|apply qk_in)
      refine wl_add rfl rfl rfl (r := ((i + 1 : Nat) : Int)) (by rw [IntKind.wrap_i64]; omega) ?_
      repeat first|(with_reducible apply wl_nil)|((with_reducible apply ws);exact rfl;exact rfl)
      refine qk_round (i + 1) ⟨rfl, rfl, rfl, trivial⟩ ⟨by omega, ?_, hw3⟩ (by omega)
      rw [List.take_succ_eq_append_getElem hlt, List.take_of_length_le (by simp; omega)]
      rw [List.take_of_length_le (by simp; omega)] at hall
      simp [hall, hz]
     ·refine wc_yes rfl (by simp only [bne_iff_ne, ne_eq]; intro e; exact hz (UInt8.toNat_inj.1 (by simpa using e))) ?_
      repeat first|(with_reducible first|apply wc_seq|apply wc_region|apply wl_nil|apply qk_thn|apply wc_ret|apply qk_thn_ret|apply qk_in_ret|apply qk_round_ret)|((with_reducible apply ws);exact rfl;exact rfl)
      refine qk_ret1 rfl rfl ⟨_, rfl, hw2.trans (hw3.mono (by omega)), ?_⟩
      show Value.bool false = Value.bool _
      congr 1
      symm
      rw [List.all_eq_false]
      refine ⟨t.s[i], ?_, by simpa using hz⟩
      rw [List.mem_iff_getElem]
      exact ⟨i, by simp; omega, by simp⟩
    ·have e16 : decide ((i : Int) < 16) = false := by simp; omega
     rw [e16]
     repeat first|(with_reducible first|apply wl_nil|apply qk_thn)|((with_reducible apply ws);exact rfl;exact rfl)|((with_reducible apply wl_no);exact rfl;exact rfl;exact rfl;exact rfl)
     refine wc_no rfl rfl ?_
     repeat (with_reducible first|apply wc_region|apply qk_thn|apply wc_skip|apply qk_in)
     refine wl_add rfl rfl rfl (r := ((i + 1 : Nat) : Int)) (by rw [IntKind.wrap_i64]; omega) ?_
     repeat first|(with_reducible apply wl_nil)|((with_reducible apply ws);exact rfl;exact rfl)
     refine qk_round (i + 1) ⟨rfl, rfl, rfl, trivial⟩ ⟨by omega, ?_, hw3⟩ (by omega)
     rw [List.take_take, Nat.min_eq_left (by omega)]
     rw [List.take_take, Nat.min_eq_left (by omega)] at hall
     exact hall
   ·refine wc_no rfl (by simpa using hlt) ?_
    repeat first|(with_reducible first|apply wc_seq|apply wc_region|apply wl_nil|apply qk_thn|apply wc_ret|apply wc_exit|apply qk_thn_ret|apply qk_in_ret|apply qk_thn_exit|apply qk_in_exit|apply qk_round_exit)|((with_reducible apply ws);exact rfl;exact rfl)
    refine qk_ret1 rfl rfl ⟨_, rfl, hw2.trans (hw3.mono (by omega)), ?_⟩
    have hi2 : i = t.s.length := by omega
    rw [hi2, List.take_length] at hall
    show Value.bool true = Value.bool _
    rw [hall]
  ·refine wc_no rfl (by simpa using h7) ?_
   rw [if_neg h7]
   repeat first|(with_reducible first|apply wc_seq|apply wc_region|apply wl_nil|apply qk_thn)|((with_reducible apply ws);exact rfl;exact rfl)
   by_cases h89 : f.kind = 8 ∨ f.kind = 9
   ·rw [if_pos h89]
    refine wc_cutT (α := Unit) (fun _ => [(36, .bool true), (2, .pointer (some ⟨w.heap.size, 0, none⟩)), (3, .pointer (some ⟨w1.heap.size, 0, none⟩))]) (fun _ w' => w' = w2) ?_ ?_
    ·by_cases h8 : f.kind = 8
     ·refine wc_yes rfl (by simpa using h8) ?_
      repeat (with_reducible apply wc_skip)
      refine qk_cut () ⟨by rw [h8]; rfl, rfl, rfl, trivial⟩ rfl
     ·have h9 : f.kind = 9 := by rcases h89 with h | h; exact absurd h h8; exact h
      refine wc_no rfl (by simpa using h8) ?_
      repeat first|(with_reducible first|apply wc_region|apply wl_nil)|((with_reducible apply ws);exact rfl;exact rfl)
      refine qk_cut () ⟨by rw [h9]; rfl, rfl, rfl, trivial⟩ rfl
    rintro _ w3 rfl
    refine wc_yes rfl rfl ?_
    repeat first|(with_reducible first|apply wc_seq|apply wc_region)|((with_reducible apply ws);exact rfl;exact rfl)
    refine wl_loadB rfl to_int rfl hb4 rfl ?_
    repeat first|(with_reducible first|apply wl_nil|apply qk_thn)|((with_reducible apply ws);exact rfl;exact rfl)
    by_cases hnl : 0 ≤ f.nul
    ·refine wc_yes rfl (by simpa using hnl) ?_
     rw [if_pos hnl]
     repeat first|(with_reducible first|apply wc_seq|apply wc_region)|((with_reducible apply ws);exact rfl;exact rfl)
     refine wl_loadB rfl to_bool rfl hb2 rfl ?_
     repeat first|(with_reducible first|apply wl_nil|apply qk_thn|apply wc_ret|apply qk_thn_ret|apply qk_in_ret)|((with_reducible apply ws);exact rfl;exact rfl)
     exact qk_ret1 rfl rfl ⟨_, rfl, hw2, rfl⟩
    ·refine wc_no rfl (by simpa using hnl) ?_
     rw [if_neg hnl]
     repeat first|(with_reducible first|apply wc_seq|apply wc_region|apply qk_thn|apply wc_skip)|((with_reducible apply ws);exact rfl;exact rfl)
     refine wl_loadB rfl to_bytes rfl hb2 rfl ?_
     repeat first|(with_reducible first|apply wl_nil|apply qk_thn|apply wc_ret|apply qk_thn_ret|apply qk_in_ret)|((with_reducible apply ws);exact rfl;exact rfl)
     refine qk_ret1 rfl rfl ⟨_, rfl, hw2, ?_⟩
     show Value.bool _ = Value.bool _
     congr 1
     cases t.s <;> simp
     omega
   ·rw [if_neg h89]
    have h8 : f.kind ≠ 8 := fun h => h89 (.inl h)
    have h9 : f.kind ≠ 9 := fun h => h89 (.inr h)
    refine wc_cutT (α := Unit) (fun _ => [(36, .bool false), (10, .int .i64 f.kind), (2, .pointer (some ⟨w.heap.size, 0, none⟩)), (3, .pointer (some ⟨w1.heap.size, 0, none⟩))]) (fun _ w' => w' = w2) ?_ ?_
    ·refine wc_no rfl (by simpa using h8) ?_
     repeat first|(with_reducible first|apply wc_region|apply wl_nil)|((with_reducible apply ws);exact rfl;exact rfl)
     refine qk_cut () ⟨?_, rfl, rfl, rfl, trivial⟩ rfl
     show some (Value.bool (f.kind == 9)) = some (Value.bool false)
     rw [show (f.kind == 9) = false from by simpa using h9]
    rintro _ w3 h3
    obtain rfl := h3.symm
    refine wc_no rfl rfl ?_
    repeat first|(with_reducible first|apply wc_seq|apply wc_region|apply wl_nil|apply qk_thn)|((with_reducible apply ws);exact rfl;exact rfl)
    by_cases h11 : f.kind = 11
    ·refine wc_yes rfl (by simpa using h11) ?_
     rw [if_pos h11]
     repeat first|(with_reducible first|apply wc_seq|apply wc_region)|((with_reducible apply ws);exact rfl;exact rfl)
     refine wl_loadB rfl to_trees rfl hb2 rfl ?_
     repeat first|(with_reducible first|apply wl_nil|apply qk_thn|apply wc_ret|apply qk_thn_ret|apply qk_in_ret)|((with_reducible apply ws);exact rfl;exact rfl)
     refine qk_ret1 rfl rfl ⟨_, rfl, hw2, ?_⟩
     show Value.bool _ = Value.bool _
     congr 1
     cases t.l <;> simp
     omega
    ·refine wc_no rfl (by simpa using h11) ?_
     rw [if_neg h11]
     repeat first|(with_reducible first|apply wc_seq|apply wc_region|apply wl_nil|apply qk_thn)|((with_reducible apply ws);exact rfl;exact rfl)
     by_cases h10 : f.kind = 10
     ·refine wc_yes rfl (by simpa using h10) ?_
      rw [if_pos h10]
      repeat first|(with_reducible first|apply wc_seq|apply wc_region)|((with_reducible apply ws);exact rfl;exact rfl)
      refine wl_loadB rfl to_flds rfl hb4 rfl ?_
      obtain ⟨fa, fc, rfl, _⟩ := hsub.shape
      rw [List.length_map] at *
      repeat first|(with_reducible first|apply wl_nil|apply qk_thn|apply wc_block)|((with_reducible apply ws);exact rfl;exact rfl)
      refine wc_loop (α := Nat) (fun i => [(59, .int .i64 (i : Int)), (58, .int .i64 (f.sub.length : Int)), (57, .slice fa f.sub.length fc), (2, .pointer (some ⟨w.heap.size, 0, none⟩)), (3, .pointer (some ⟨w1.heap.size, 0, none⟩))]) (fun i w' => i ≤ f.sub.length ∧ usuals f.sub 0 t = usuals (f.sub.drop i) i t ∧ Below w2.heap.size w2 w') (fun i => f.sub.length - i) 0 ⟨rfl, rfl, rfl, rfl, rfl, trivial⟩ ⟨Nat.zero_le _, rfl, Below.refl _ _⟩ ?_
      rintro i w3 ⟨hi, hall, hw3⟩
      have hfl := fsok.len hsubOK
      have hw03 : Below w.heap.size w w3 := hw2.trans (hw3.mono (by omega))
      have hB3 : B ≤ w3.heap.size := by have := hw3.size; omega
      have hs23 := hw3.size
      repeat first|(with_reducible first|apply wc_seq|apply wc_region|apply wl_nil|apply qk_thn)|((with_reducible apply ws);exact rfl;exact rfl)
      by_cases hlt : i < f.sub.length
      ·refine wc_yes rfl (by simpa using hlt) ?_
       obtain ⟨b, off, c', cs, hv, _, hcs, hlen, hr⟩ := (hsub.below (hw03.mono hB) (Nat.le_refl _)).get (sz := 8) (i := i) (by intro d hd; obtain ⟨x, _, rfl⟩ := List.mem_map.1 hd; exact fldD_width x) (by simpa using hlt)
       simp only [Value.slice.injEq, List.length_map] at hv
       obtain ⟨rfl, _, rfl⟩ := hv
       simp only [List.getElem_map] at hr
       obtain ⟨hone, _⟩ := fld_one hr
       repeat first|(with_reducible first|apply wc_seq|apply wc_region|apply qk_thn|apply wc_block|apply wc_skip)|((with_reducible apply ws);exact rfl;exact rfl)
       refine wl_indexAddr rfl rfl es_flds rfl hlt ?_
       refine wl_loadAgg rfl (by rw [hlen]; exact ta_fld) rfl (fun j v e => hcs.cell e) ?_
       refine wl_alloc zv_fld rfl rfl (fun w4 hbx4 hg4 hs4 => ?_)
       repeat ((with_reducible apply ws);exact rfl;exact rfl)
       refine wl_storeBAgg rfl rfl rfl (by rw [hlen]; exact tz_fld) hone hbx4 (by rw [hlen]; rfl) (fun w5 hbx5 hg5 hs5 => ?_)
       have hw35 : Below w3.heap.size w3 w5 := (below_of hg4 (Nat.le_refl _) (by simp)).trans (below_of hg5 (by omega) (by intro k hk; simp at hk; omega))
       have hw05 : Below w.heap.size w w5 := hw03.trans (hw35.mono (by omega))
       have hw25 : Below w2.heap.size w2 w5 := hw3.trans (hw35.mono (by omega))
       repeat (with_reducible first|apply wc_seq|apply wl_nil|apply qk_thn)
       refine wc_par [(0, .agg cs.toArray), (1, .agg ([.int .i64 t.n, .slice sa t.s.length sc, .bool t.nul, .slice la t.l.length lc, uv] : List Value).toArray), (2, .int .i64 (i : Int))] [5, 4, 3]
        (fun vals w' => Below w5.heap.size w5 w' ∧ match vals with
         | [] => True
         | [v] => ∃ xs : List Value, v = .agg xs.toArray ∧ Rep (Lo B) w' (treeD (att t i)) xs
         | [v, _] => v = .bool (usual f.sub[i] (att t i))
         | v :: _ => v = .bool (!usual f.sub[i] (att t i)))
        mixed rfl rfl rfl rfl rfl (by show ([0,1,2] : List Nat).Nodup; decide) rfl rfl (by decide) rfl rfl rfl rfl ⟨(Below.refl _ w5).drew, trivial⟩ ?_ ⟨?_, ?_, ?_, trivial⟩ ?_
       ·intro p hp vals w' hC a k
        simp only [List.mem_cons, List.not_mem_nil, or_false] at hp
        rcases hp with rfl | rfl | rfl
        ·exact gv rfl rfl (rn_loadBAgg k rfl (by rw [hlen]; exact ta_fld) (hbx5.below hC.1 (by omega)))
        ·exact gv rfl rfl (rn_loadBAgg k rfl (by rw [show ([.int .i64 t.n, .slice sa t.s.length sc, .bool t.nul, .slice la t.l.length lc, uv] : List Value).length = 5 from rfl]; exact ta_tree) (by have := hbt _ (hw25.trans (hC.1.mono (by omega))); rw [List.length_map] at this; exact this))
        ·exact gv rfl rfl (rn_move k rfl)
       ·rintro vals w' hvl ⟨hb', hC⟩ a k
        match vals, hvl with
        | [v4, v3], _ =>
         simp only [] at hC
         subst hC
         exact ⟨_, rfl, does_not k rfl ⟨hb', rfl⟩⟩
       ·rintro vals w' hvl ⟨hb', hC⟩ a k
        match vals, hvl with
        | [v3], _ =>
         obtain ⟨xs, rfl, hxr⟩ := hC
         refine ⟨_, rfl, does_call k rfl (by kernel_rfl) ((hu f.sub[i] (List.getElem_mem hlt) (att t i) B w' _ _ (hok.at i) (by have := hb'.size; omega) (Rep.below hr ((hw35.trans (hb'.mono (by omega))).mono hB3) (Nat.le_refl _)) hxr).mono ?_)⟩
         rintro e w'' ⟨v, rfl, hb'', rfl⟩
         exact ⟨_, rfl, hb'.trans (hb''.mono hb'.size), rfl⟩
       ·rintro vals w' hvl ⟨hb', hC⟩ a k
        match vals, hvl with
        | [], _ =>
         refine ⟨_, rfl, does_call k rfl (by kernel_rfl) ((fn_at t i B w' (by have := hb'.size; omega) _ (by have := Rep.below ht ((hw05.trans (hb'.mono (by omega))).mono hB) (Nat.le_refl _); rw [List.length_map] at this; exact this)).mono ?_)⟩
         rintro e w'' ⟨v, rfl, hb'', xs, rfl, hxr⟩
         exact ⟨_, rfl, hb'.trans (hb''.mono hb'.size), xs, rfl, hxr⟩
       ·rintro vals w' hvl ⟨hb', hC⟩
        match vals, hvl with
        | [v5, v4, v3], _ =>
         simp only [] at hC
         subst hC
         refine qk_thn ?_
         have hdr := usuals_drop f.sub t hlt
         cases hus : usual f.sub[i] (att t i)
         ·refine wc_yes rfl rfl ?_
          repeat first|(with_reducible first|apply wc_seq|apply wc_region|apply wl_nil|apply qk_thn|apply wc_ret|apply qk_thn_ret|apply qk_in_ret|apply qk_round_ret)|((with_reducible apply ws);exact rfl;exact rfl)
          refine qk_ret1 rfl rfl ⟨_, rfl, hw05.trans (hb'.mono (by omega)), ?_⟩
          rw [hall, hdr, hus]; simp
         ·refine wc_no rfl rfl ?_
          repeat (with_reducible first|apply wc_region|apply qk_thn|apply wc_skip|apply qk_in)
          refine wl_add rfl rfl rfl (r := ((i + 1 : Nat) : Int)) (by rw [IntKind.wrap_i64]; omega) ?_
          repeat first|(with_reducible apply wl_nil)|((with_reducible apply ws);exact rfl;exact rfl)
          refine qk_round (i + 1) ⟨rfl, rfl, rfl, rfl, rfl, trivial⟩ ⟨by omega, ?_, hw25.trans (hb'.mono (by omega))⟩ (by omega)
          rw [hall, hdr, hus]; simp
      ·refine wc_no rfl (by simpa using hlt) ?_
       repeat first|(with_reducible first|apply wc_seq|apply wc_region|apply qk_thn|apply wc_exit|apply qk_thn_exit|apply qk_in_exit|apply qk_round_exit)|((with_reducible apply ws);exact rfl;exact rfl)
       refine wl_loadB rfl to_flds rfl (hbf _ hw3) rfl ?_
       repeat ((with_reducible apply ws);exact rfl;exact rfl)
       refine wl_loadB rfl to_tags rfl (hbt _ hw3) rfl ?_
       refine wl_call rfl (by kernel_rfl) rfl ((fn_unknown _ _ f.sub t.u B w3 hB3 (hsub.below (hw03.mono hB) (Nat.le_refl _)) (huu.below (hw03.mono hB) (Nat.le_refl _)) (fsok.tag hsubOK) (by omega)).mono ?_)
       rintro e w4 ⟨v, rfl, hw4, hsq⟩
       refine ⟨_, rfl, ?_⟩
       obtain ⟨va, vc, rfl, _⟩ := hsq.shape
       rw [List.length_map]
       repeat first|(with_reducible first|apply wl_nil|apply qk_thn|apply wc_ret|apply qk_thn_ret|apply qk_in_ret)|((with_reducible apply ws);exact rfl;exact rfl)
       refine qk_ret1 rfl rfl ⟨_, rfl, hw03.trans (hw4.mono hw03.size), ?_⟩
       show Value.bool _ = Value.bool _
       congr 1
       rw [hall, List.drop_of_length_le (by omega)]
       simp only [usuals, Bool.true_and]
       cases unknown f.sub t.u <;> simp
       omega
     ·refine wc_no rfl (by simpa using h10) ?_
      rw [if_neg h10]
      repeat (with_reducible first|apply wc_seq|apply qk_thn|apply wc_skip|apply qk_in)
      refine wc_par [(0, .pointer (some ⟨w1.heap.size, 0 + 0, none⟩)), (1, .int .i64 t.n), (2, .pointer (some ⟨w.heap.size, 0 + 0, none⟩)), (3, .int .i64 f.kind), (6, .pointer (some ⟨w.heap.size, 0 + 5, none⟩)), (7, .int .i64 f.df), (8, .pointer (some ⟨w.heap.size, 0 + 0, none⟩)), (9, .int .i64 f.kind)] [13, 12, 11, 10, 5, 4]
       (fun vals w' => Below w2.heap.size w2 w' ∧ match vals with
        | [] => True
        | [v4] => v4 = .int .i64 (width f.kind : Nat)
        | [v5, _] => Own w' w2.heap.size 5 v5 (be (width f.kind) t.n)
        | [v10, v5, _] => Own w' w2.heap.size 5 v5 (be (width f.kind) t.n) ∧ v10 = .int .i64 (width f.kind : Nat)
        | [v11, _, v5, _] => Own w' w2.heap.size 5 v5 (be (width f.kind) t.n) ∧ Own w' w2.heap.size 5 v11 (be (width f.kind) f.df)
        | v :: _ => v = .bool (be (width f.kind) t.n == be (width f.kind) f.df))
       mixed rfl rfl rfl rfl rfl (by show ([0,1,2,3,6,7,8,9] : List Nat).Nodup; decide) rfl rfl (by decide) rfl rfl rfl rfl ⟨(Below.refl _ w2).drew, trivial⟩ ?_ ⟨?_, ?_, ?_, ?_, ?_, ?_, trivial⟩ ?_
      ·intro p hp vals w' hC a k
       simp only [List.mem_cons, List.not_mem_nil, or_false] at hp
       rcases hp with rfl | rfl | rfl | rfl | rfl | rfl | rfl | rfl
       ·exact gv rfl rfl (rn_fieldAddr k rfl fo_tree0)
       ·exact gv rfl rfl (rn_load k rfl to_i64 ((hbt _ hC.1).cell0 (i := 0) rfl))
       ·exact gv rfl rfl (rn_fieldAddr k rfl fo_fld0)
       ·exact gv rfl rfl (rn_load k rfl to_int ((hbf _ hC.1).cell0 (i := 0) rfl))
       ·exact gv rfl rfl (rn_fieldAddr k rfl fo_fld5)
       ·exact gv rfl rfl (rn_load k rfl to_i64 ((hbf _ hC.1).cell0 (i := 5) rfl))
       ·exact gv rfl rfl (rn_fieldAddr k rfl fo_fld0)
       ·exact gv rfl rfl (rn_load k rfl to_int ((hbf _ hC.1).cell0 (i := 0) rfl))
      ·rintro vals w' hvl ⟨hb', hC⟩ a k
       match vals, hvl with
       | [v12, v11, v10, v5, v4], _ => exact ⟨_, rfl, does_assign k rfl ⟨hb', hC⟩⟩
      ·rintro vals w' hvl ⟨hb', hC⟩ a k
       match vals, hvl with
       | [v11, v10, v5, v4], _ =>
        obtain ⟨ho5, ho11⟩ := hC
        refine ⟨_, rfl, does_call k rfl (by kernel_rfl) ((fn_same _ _ _ _ w' ho5.bytes ho11.bytes (by rw [be_length]; exact Nat.le_trans (width_le _) (by decide)) (by rw [be_length]; exact Nat.le_trans (width_le _) (by decide))).mono ?_)⟩
        rintro e w'' ⟨v, rfl, hb'', rfl⟩
        exact ⟨_, rfl, hb'.trans (hb''.mono hb'.size), rfl⟩
      ·rintro vals w' hvl ⟨hb', hC⟩ a k
       match vals, hvl with
       | [v10, v5, v4], _ =>
        obtain ⟨ho5, rfl⟩ := hC
        refine ⟨_, rfl, does_call k rfl (by kernel_rfl) ((fn_fixed f.df (width f.kind) (width_le _) w').mono ?_)⟩
        rintro e w'' ⟨v, rfl, hb'', ho⟩
        exact ⟨_, rfl, hb'.trans (hb''.mono hb'.size), ho5.below hb'', ho.mono hb'.size⟩
      ·rintro vals w' hvl ⟨hb', hC⟩ a k
       match vals, hvl with
       | [v5, v4], _ =>
        simp only [] at hC
        refine ⟨_, rfl, does_call k rfl (by kernel_rfl) ((fn_width f.kind w').mono ?_)⟩
        rintro e w'' ⟨v, rfl, hb'', rfl, rfl⟩
        exact ⟨_, rfl, hb', hC, rfl⟩
      ·rintro vals w' hvl ⟨hb', hC⟩ a k
       match vals, hvl with
       | [v4], _ =>
        simp only [] at hC
        subst hC
        refine ⟨_, rfl, does_call k rfl (by kernel_rfl) ((fn_fixed t.n (width f.kind) (width_le _) w').mono ?_)⟩
        rintro e w'' ⟨v, rfl, hb'', ho⟩
        exact ⟨_, rfl, hb'.trans (hb''.mono hb'.size), ho.mono hb'.size⟩
      ·rintro vals w' hvl ⟨hb', hC⟩ a k
       match vals, hvl with
       | [], _ =>
        refine ⟨_, rfl, does_call k rfl (by kernel_rfl) ((fn_width f.kind w').mono ?_)⟩
        rintro e w'' ⟨v, rfl, hb'', rfl, rfl⟩
        exact ⟨_, rfl, hb', rfl⟩
      ·rintro vals w' hvl ⟨hb', hC⟩
       match vals, hvl with
       | [v13, v12, v11, v10, v5, v4], _ =>
        simp only [] at hC
        subst hC
        refine qk_thn ?_
        repeat (with_reducible apply wc_ret)
        exact qk_ret1 rfl rfl ⟨_, rfl, hw2.trans (hb'.mono (by omega)), rfl⟩
end
end Go.Proofs.YtlmnaffhadeolaaGreatDoor
