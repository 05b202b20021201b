/- A part of the proof of FnUnsafeUpdateRaftVoterResponseCardSaid: what its texts prove stands at the head of each. Conditions: those that each theorem names. -/
import Derived.Test.YtoncnffdlejbaaaDoorPartF
import Derived.Test.YtoncnffdlejbaaaDoorPartA
import Derived.Test.YtoncnffdlejbaaaDoorPartC
import Derived.Test.YtoncnffdlejbaaaDoorPartE
import Derived.Test.YtoncnffdlejbaaaDoorPartD
set_option linter.all false
namespace Go.Proofs.YtoncnffdlejbaaaDoor
def tagged (tag : Int) (n : Nat) : Nat := if tag < 0 then n else n + n + tag.toNat + 3
def oF (fl : Bool) : Nat := bif fl then 1074069751 else 0
mutual
def Fld.most (fl : Bool) : Fld → Nat
 | .mk kind _ _ _ _ _ of sub =>
  if kind = 11 then 8 + 32767 * (if of = 10 then (1 + known sub) * Fld.mosts fl sub + oF fl else 32783)
  else if kind = 10 then 1 + ((1 + known sub) * Fld.mosts fl sub + oF fl) else 32783
def Fld.mosts (fl : Bool) : List Fld → Nat
 | [] => 0
 | f :: fs => tagged f.tag (f.most fl) + Fld.mosts fl fs
end
mutual
def Fld.price : Fld → Nat
 | .mk _ _ _ _ _ _ _ sub => ((1 + known sub) * Fld.prices sub + 272) + 24 + 9
def Fld.prices : List Fld → Nat
 | [] => 0
 | f :: fs => tagged f.tag f.price + Fld.prices fs
end
end Go.Proofs.YtoncnffdlejbaaaDoor

namespace Go.Proofs.YtoncnffdlejbaaaDoor
open Go Go.RowKit
section
set_option maxRecDepth 100000
end
end Go.Proofs.YtoncnffdlejbaaaDoor

namespace Go.Proofs.YtoncnffdlejbaaaDoor
open Go Go.RowKit
section
variable {P : Program} {ops : Array Oper} {Q : Exit → Act → World → Prop} {N : Nat} {rest : List Oper} {L : Sl} {w : World} {d : Nat} {ty : TypeId} {pos : String} {aft : Array Edge}
end
end Go.Proofs.YtoncnffdlejbaaaDoor

namespace Go.Proofs.YtoncnffdlejbaaaDoor.Rdk
open Go Go.RowKit
set_option maxRecDepth 100000
def TInv (st : Option (List UInt8)) (j : Nat) (u : List (Nat × List UInt8)) (st' : Option (List UInt8)) : Prop := match st with
 | none => st' = none
 | some s => match st' with
  | some s' => tagsP s = tagsR j u s'
  | none => tagsP s = none
theorem tinv_start {st st1 : Option (List UInt8)} {n : Nat} (h : UvRel st n st1) : TInv st n [] st1 := by
 have h2 := h.2
 cases st with
 | none => exact h2
 | some s =>
  simp only [TInv, tagsP] at h2 ⊢
  cases hx : uvarP s with
  | none => rw [hx] at h2; simp only [] at h2; subst h2; rfl
  | some x => rw [hx] at h2; obtain ⟨rfl, rfl⟩ := h2; rfl
theorem tinv_step {st s1 s2 s3 s4 : Option (List UInt8)} {j k l : Nat} {u : List (Nat × List UInt8)} {bs : List UInt8} (h : TInv st (j + 1) u s1) (h1 : UvRel s1 k s2) (h2 : UvRel s2 l s3) (h3 : SpanRel l s3 bs s4) : TInv st j (setTag k bs u) s4 := by
 have e1 := h1.2
 have e2 := h2.2
 cases st with
 | none =>
  simp only [TInv] at h ⊢
  subst h
  simp only [] at e1
  subst e1
  simp only [] at e2
  subst e2
  exact h3
 | some s =>
  cases s1 with
  | none =>
   simp only [TInv] at h
   simp only [] at e1
   subst e1
   simp only [] at e2
   subst e2
   have h4 : s4 = none := h3
   subst h4
   exact h
  | some t1 =>
   simp only [TInv, tagsR] at h
   simp only [] at e1
   cases hx : uvarP t1 with
   | none =>
    rw [hx] at h e1
    simp only [] at e1
    subst e1
    simp only [] at e2
    subst e2
    have h4 : s4 = none := h3
    subst h4
    exact h
   | some x =>
    rw [hx] at h e1
    obtain ⟨rfl, rfl⟩ := e1
    simp only [Option.bind_some] at h e2
    cases hy : uvarP x.2 with
    | none =>
     rw [hy] at h e2
     simp only [] at e2
     subst e2
     have h4 : s4 = none := h3
     subst h4
     exact h
    | some y =>
     rw [hy] at h e2
     obtain ⟨rfl, rfl⟩ := e2
     simp only [Option.bind_some] at h
     simp only [SpanRel, spanP] at h3
     rw [if_neg (by omega), Int.toNat_natCast] at h3
     cases hz : takeN y.1 y.2 with
     | none => rw [hz] at h h3; simp only [] at h3; subst h3; exact h
     | some z => rw [hz] at h h3; obtain ⟨rfl, rfl⟩ := h3; exact h
theorem tinv_end {st st' : Option (List UInt8)} {u : List (Nat × List UInt8)} (h : TInv st 0 u st') : TagRel st u st' := by
 unfold TagRel
 cases st with
 | none => exact h
 | some s =>
  cases st' with
  | none => simp only [TInv] at h; simp only [h]
  | some s' => simp only [TInv, tagsR] at h; simp only [h, and_self]
theorem chg_cut {w w' : World} {rb : Nat} (h : Chg (fun j => j = rb ∨ w.heap.size ≤ j) w w') : Chg (· = rb) w w' := ⟨h.os, h.tape, h.output, h.size, fun k hk hn => h.block k hk (by rintro (e | e); exact hn e; omega)⟩
theorem fn_tags (w : World) (rb sb lo : Nat) (st : Option (List UInt8)) (hr : Rdr w rb sb st) (h1 : rb < lo) (h2 : sb < lo) (h3 : lo ≤ w.heap.size) (h4 : rb ≠ sb) :
  Calls Tryd.prog 93 #[.pointer (some ⟨rb, 0, none⟩)] w fun e w' => ∃ m u st', e = .returned (.agg #[m]) ∧ Chg (· = rb) w w' ∧ Rdr w' rb sb st' ∧ m.oneCell' = true ∧ Rep (Dk sb lo w') w' (tagsK u) [m] ∧ TagRel st u st' := by
 refine enter Tryd.func93 rfl Tryd.ntmps93 rfl ?_
 refine wc_seq (wc_region (wl_alloc zv_tags rfl rfl (fun w1 hb1 hg1 hs1 => wl_nil (qk_thn ?_))))
 refine wc_seq (wc_region (wl_alloc zv_tags rfl rfl (fun w2 hb2 hg2 hs2 => wl_nil (qk_thn ?_))))
 have c1 : Chg (fun _ => False) w w1 := Chg.grown0 hg1
 have c2 : Chg (fun _ => False) w1 w2 := Chg.grown0 hg2
 have hb1' := hb1.chg c2 id
 have hr2 := (hr.chg c1 id id).chg c2 id id
 obtain ⟨B, hB⟩ : ∃ B, B = w.heap.size := ⟨_, rfl⟩
 rw [← hB] at hs1 hb1' h3
 rw [hs1] at hb2
 rw [hs1] at hs2
 refine wc_seq (wc_seq (wc_region ?_))
 refine wt rfl rfl ?_
 refine wl_call rfl (by kernel_rfl) rfl ((fn_ruv w2 rb sb st hr2 h4).mono ?_)
 rintro en w3 ⟨n, st1, rfl, hc3, hr3, hrel⟩
 refine ⟨_, rfl, ?_⟩
 refine wt rfl rfl ?_
 refine wl_nil (qk_thn ?_)
 have hrb1 : ¬ (fun j => j = rb) B := fun e => by have : B = rb := e; omega
 have hrb2 : ¬ (fun j => j = rb) (B + 1) := fun e => by have : B + 1 = rb := e; omega
 have hs3 := hc3.size
 have c03 : Chg (fun j => j = rb ∨ B ≤ j) w w3 := ((c1.trans c2).wide (fun _ h => h.elim)).trans (hc3.wide (fun j hj => .inl hj))
 refine wc_block (wc_loop (α := Nat) (fun j => [(0, .pointer (some ⟨rb, 0, none⟩)), (2, .pointer (some ⟨B, 0, none⟩)), (3, .pointer (some ⟨B + 1, 0, none⟩)), (4, .int .u32 (j : Int))])
  (fun j w' => ∃ st' u m, j < 4294967296 ∧ Chg (fun j => j = rb ∨ B ≤ j) w w' ∧ Rdr w' rb sb st' ∧ Box w' B [.map none] 67 ∧ Box w' (B + 1) [m] 67 ∧ TagsAt w' sb (B + 2) m u ∧ TInv st j u st') (fun j => j) n
  ⟨rfl, by subst hB; rfl, by rw [← hs1]; rfl, rfl, trivial⟩ ⟨st1, [], .map none, hrel.1, c03, hr3, hb1'.chg hc3 hrb1, hb2.chg hc3 hrb2, .inl ⟨rfl, rfl⟩, tinv_start hrel⟩ ?_)
 rintro j w4 ⟨s1, u, m, hj, hc4, hr4, hbA, hbB, htm, hinv⟩
 have hs4 := hc4.size
 have nrb : ∀ r, B + 2 ≤ r → r < w4.heap.size → ¬ (fun j => j = rb) r := fun r h _ e => by have : r = rb := e; omega
 cases j with
 | zero =>
  refine wc_seq (wc_seq (wc_region ?_))
  refine wt rfl rfl ?_
  refine wt rfl rfl ?_
  refine wl_nil (qk_thn (wc_no rfl (by simp) (wc_exit (qk_thn_exit (qk_round_exit (qk_in_exit (qk_thn ?_)))))))
  refine wc_seq (wc_region ?_)
  refine wl_loadBAgg (cs := [m]) rfl ta_tags rfl hbB ?_
  refine wl_storeBAgg (vs := [m]) rfl rfl rfl tz_tags (by
   rcases htm with ⟨rfl, _⟩ | ⟨r, rfl, _⟩ <;> rfl) hbA rfl (fun w5 hb5 hg5 hs5 => ?_)
  refine wl_nil (qk_thn (wc_ret (qk_retCell (cs := [m]) rfl rfl ta_tags hb5 ?_)))
  have hc5 : Chg (· = B) w4 w5 := Chg.grown hg5
  have n5 : ∀ x : Nat, x < B ∨ B < x → ¬ (fun j => j = B) x := fun x h e => by have : x = B := e; omega
  have htm5 := htm.keep hc5 (fun r h _ => n5 r (by omega)) (n5 sb (by omega)) (by omega)
  refine ⟨m, u, s1, rfl, chg_cut (by rw [← hB]; exact hc4.trans (hc5.wide (fun j hj => .inr (by have : j = B := hj; omega)))), hr4.chg hc5 (n5 rb (by omega)) (n5 sb (by omega)), ?_, ?_, tinv_end hinv⟩
  ·rcases htm with ⟨rfl, _⟩ | ⟨r, rfl, _⟩ <;> rfl
  ·rcases htm5 with ⟨rfl, rfl⟩ | ⟨r, rfl, hlo, ht⟩
   ·exact .inl ⟨rfl, rfl⟩
   ·exact ht.rep (by omega) (by have := hc5.size; omega)
 | succ j =>
  refine wc_seq (wc_seq (wc_region ?_))
  refine wt rfl rfl ?_
  refine wt rfl rfl ?_
  refine wl_nil (qk_thn (wc_yes rfl (by simp) (wc_skip (qk_thn ?_))))
  refine wc_seq (wc_block (wc_seq (wc_region ?_)))
  refine wt rfl rfl ?_
  refine wl_call rfl (by kernel_rfl) rfl ((fn_ruv w4 rb sb s1 hr4 h4).mono ?_)
  rintro en w5 ⟨key, s2, rfl, hc5, hr5, hrel5⟩
  refine ⟨_, rfl, ?_⟩
  refine wt rfl rfl ?_
  refine wl_call rfl (by kernel_rfl) rfl ((fn_ruv w5 rb sb s2 hr5 h4).mono ?_)
  rintro en w6 ⟨len, s3, rfl, hc6, hr6, hrel6⟩
  refine ⟨_, rfl, ?_⟩
  refine wt rfl rfl ?_
  refine wt rfl rfl ?_
  refine wl_nil (qk_thn (wc_region ?_))
  refine wt rfl rfl ?_
  refine wt rfl rfl ?_
  refine wt rfl rfl ?_
  have hlen := hrel6.1
  refine wl_conv .i64 (r := (len : Int)) rfl (by kernel_rfl) (by kernel_rfl) rfl (by rw [IntKind.wrap_i64]; omega) ?_
  refine wl_call rfl (by kernel_rfl) rfl ((fn_span w6 rb sb s3 (len : Int) hr6 h4).mono ?_)
  rintro en w7 ⟨v, bs, s4, rfl, hc7, hr7, hsv, _, hspan⟩
  refine ⟨_, rfl, ?_⟩
  have c47 : Chg (· = rb) w4 w7 := hc5.trans (hc6.trans hc7)
  have hs7 := c47.size
  have nB : ∀ x : Nat, B ≤ x → ¬ (fun j => j = rb) x := fun x h e => by have : x = rb := e; omega
  have hb7 := hbB.chg c47 (nB _ (by omega))
  have ht7 := htm.keep c47 nrb (fun e => h4 e.symm) (by omega)
  have hlt : B + 1 < w7.heap.size := hb7.lt
  refine wl_call rfl (by kernel_rfl) rfl ((fn_set w7 (B + 1) sb (B + 2) key v m u _ bs hb7 ht7 hsv (by omega) (by omega) (by omega) (by omega)).mono ?_)
  rintro en w8 ⟨rfl, m', hb8, ht8, hc8⟩
  refine ⟨_, rfl, ?_⟩
  refine wl_nil (qk_in (qk_thn (wc_region ?_)))
  refine wt rfl rfl ?_
  refine wl_sub' (r := (j : Int)) rfl rfl rfl (by rw [IntKind.wrap_u32]; omega) ?_
  refine wt rfl rfl ?_
  have n8 : ∀ x : Nat, x < B + 1 → ¬ (fun j => j = B + 1 ∨ B + 2 ≤ j) x := fun x h e => by have : x = B + 1 ∨ B + 2 ≤ x := e; omega
  refine wl_nil (qk_round j ⟨rfl, rfl, rfl, rfl, trivial⟩ ⟨s4, setTag key bs u, m', by omega, ?_, hr7.chg hc8 (n8 rb (by omega)) (n8 sb (by omega)), (hbA.chg c47 (nB B (by omega))).chg hc8 (n8 B (by omega)), hb8, ht8, tinv_step hinv hrel5 hrel6 hspan⟩ (by omega))
  exact hc4.trans ((c47.wide (fun j hj => .inl hj)).trans (hc8.wide (fun j hj => .inr (by have : j = B + 1 ∨ B + 2 ≤ j := hj; omega))))
end Go.Proofs.YtoncnffdlejbaaaDoor.Rdk

namespace Go.Proofs.YtoncnffdlejbaaaDoor.Rdk
open Go Go.RowKit
set_option maxRecDepth 100000
end Go.Proofs.YtoncnffdlejbaaaDoor.Rdk

namespace Go.Proofs.YtoncnffdlejbaaaDoor.Rdk
open Go Go.RowKit
theorem allRd_nil {P : Program} : ∀ x ∈ ([] : List (Nat × Rp)), RdC P x.1 x.2 := fun x h => by cases h
theorem allRd_cons {P : Program} {f : Nat} {p : Rp} {l : List (Nat × Rp)} (h : RdC P f p) (hl : ∀ x ∈ l, RdC P x.1 x.2) : ∀ x ∈ (f, p) :: l, RdC P x.1 x.2 := fun x hx => by
 rcases List.mem_cons.1 hx with rfl | hm
 ·exact h
 ·exact hl x hm
theorem allLen_nil {P : Program} : ∀ x ∈ ([] : List (Nat × Bool)), LenC P x.1 x.2 := fun x h => by cases h
theorem rpOf_mem : ∀ {l : List (Nat × Rp)} {f : Nat} {p : Rp}, rpOf l f = some p → (f, p) ∈ l
 | [], _, _, h => by cases h
 | x :: l, f, p, h => by
  simp only [rpOf] at h
  cases hb : Nat.beq x.1 f with
  | true =>
   rw [hb] at h
   simp only [cond_true, Option.some.injEq] at h
   rw [← beq_out hb, ← h]
   exact List.mem_cons_self
  | false => rw [hb] at h; exact List.mem_cons_of_mem _ (rpOf_mem h)
theorem lcOf_mem : ∀ {l : List (Nat × Bool)} {f : Nat} {p : Bool}, lcOf l f = some p → (f, p) ∈ l
 | [], _, _, h => by cases h
 | x :: l, f, p, h => by
  simp only [lcOf] at h
  cases hb : Nat.beq x.1 f with
  | true =>
   rw [hb] at h
   simp only [cond_true, Option.some.injEq] at h
   rw [← beq_out hb, ← h]
   exact List.mem_cons_self
  | false => rw [hb] at h; exact List.mem_cons_of_mem _ (lcOf_mem h)
def krFns : List (Nat × Rp) :=
 (88, .i16) ::
 (78, .i32) ::
 (87, .str) ::
 (86, .cstr) ::
 []
def krLens : List (Nat × Bool) :=
 []
theorem krFns_ok : ∀ x ∈ krFns, RdC Tryd.prog x.1 x.2 :=
 allRd_cons rd_Int16 <|
 allRd_cons rd_Int32 <|
 allRd_cons rd_String <|
 allRd_cons rd_CompactString <|
 allRd_nil
theorem krLens_ok : ∀ x ∈ krLens, LenC Tryd.prog x.1 x.2 :=
 allLen_nil
def kr : Kr where
 fns := krFns
 lens := krLens
 ok := 1000000
 comp := 82
 tags := 93
 rty := 104
theorem kr_ok (ev : Value) : KrOk Tryd.prog kr 1 ev where
 rd := fun f p h _ => krFns_ok _ (rpOf_mem h)
 len := fun f c h _ => krLens_ok _ (lcOf_mem h)
 tags := fun _ w rb sb lo st hr h1 h2 h3 h4 => fn_tags w rb sb lo st hr h1 h2 h3 h4
 ok := fun h => Bool.noConfusion (h.symm.trans (show isFn Tryd.prog kr.ok = false by kernel_rfl))
 comp := fun _ w rb sb st hr hg => fn_complete w rb sb st ev hr hg
theorem kr_ty : KrTy Tryd.prog kr where
 built := fun a n c => by kernel_rfl
 zero := fun w => by kernel_rfl
 size := by kernel_rfl
end Go.Proofs.YtoncnffdlejbaaaDoor.Rdk

namespace Go.Proofs.YtoncnffdlejbaaaDoor
open Go Go.RowKit
section
variable {P : Program} {ops : Array Oper} {Q : Exit → Act → World → Prop} {N : Nat} {rest : List Oper} {L : Sl} {w : World} {d : Nat} {ty : TypeId} {pos : String} {aft : Array Edge}
theorem wl_ifNeNil {x : Operand} {t u : TypeId} (hx : ev L x = some .nilIface) (ht : (match P.underlying t with | some (.interface _) => true | _ => false) = true) (hd : Nat.blt d N = true) (h : WL rest P ops Q N ((d, .bool false) :: L) w) :
  WL (⟨some d, .binOp .neq t x (.const .nilIface) u, ty, pos, aft, none⟩ :: rest) P ops Q N L w := by
 intro a k
 split at ht
 ·rename_i ms hu
  refine st_of (o := ⟨some d, .binOp .neq t x (.const .nilIface) u, ty, pos, aft, none⟩) (v := .bool false) (w' := w) rfl ?_ (h _ (k.put _ hd))
  simp only [execOp, k.eval hx, eval_const]
  have h : ∀ d : Nat, (Op.equalIn (d + 1) t .nilIface .nilIface).run P w = .ok true w := fun d => by
   simp [Op.equalIn, run_underlying hu]
  simp only [eqGuard, binOp]
  simp [Op.equal, Op.maxDepth, h 9999]
 ·cases ht
end
theorem own_src {w : World} {B u8 : Nat} {d : Value} {s : List UInt8} (h : Own w B u8 d s) (hl : s.length ≤ srcLim) (hx : 0 < B) (hw : 0 < w.heap.size) : ∃ sb, sb < w.heap.size ∧ (sb = 0 ∨ B ≤ sb) ∧ SrcAt w sb d s := by
 obtain ⟨hxl, ⟨rfl, h0⟩ | ⟨g, cap, cur, rfl, hBg, hheap, hle, hcap, hcs, htake⟩⟩ := id h
 ·exact ⟨0, hw, .inl rfl, hl, .inl ⟨rfl, List.length_eq_zero_iff.1 h0, rfl⟩⟩
 ·refine ⟨g, (Array.getElem?_eq_some_iff.1 hheap).1, .inr hBg, hl, .inr ⟨0, cap, rfl, hle, ⟨cur, _, _, hheap, ?_, ?_⟩, by omega⟩⟩
  ·rw [bv_length]; omega
  ·intro i v hv
   rw [Nat.zero_add]
   rw [← htake, List.getElem?_take] at hv
   split at hv
   ·simpa using hv
   ·cases hv
theorem chg_below {S : Nat → Prop} {B : Nat} {w w' : World} (h : Chg S w w') (hS : ∀ j, j < B → ¬ S j) (hB : B ≤ w.heap.size) : Below B w w' := ⟨h.os, h.tape, h.output, h.size, fun k hk => h.block k (by omega) (hS k hk)⟩
theorem be2_ver (n : Nat) (h : n < 32768) : IntKind.i16.wrap (n : Int) = (n : Int) := by
 simp only [IntKind.wrap, IntKind.bits, IntKind.signed]
 simp
 omega
end Go.Proofs.YtoncnffdlejbaaaDoor

namespace Go.Proofs.YtoncnffdlejbaaaDoor
open Go Go.RowKit
section
set_option maxRecDepth 100000
end
end Go.Proofs.YtoncnffdlejbaaaDoor

namespace Go.Proofs.YtoncnffdlejbaaaDoor
open Go Go.RowKit
def PF (f : Fld) (y : Tree) (j : Nat) (v : Value) (w : World) : Prop := match j with
 | 1 => Sq w.heap.size w v ([f].map fldD)
 | 7 => Sq w.heap.size w v ([y].map treeD)
 | 8 => ∃ cs : List Value, v = .agg cs.toArray ∧ Rep (Lo w.heap.size) w (treeD (.mk 0 [] false [y] [])) cs
 | 9 => v = .bool true
 | 10 => v = .bool false
 | _ => True
theorem PF.up {f : Fld} {y : Tree} {j : Nat} {v : Value} {w w' : World} (h : PF f y j v w) (hb : Below w.heap.size w w') : PF f y j v w' := by
 unfold PF at *
 split at h
 ·exact h.below hb hb.size
 ·exact h.below hb hb.size
 ·obtain ⟨cs, rfl, hr⟩ := h; exact ⟨cs, rfl, Rep.below hr hb hb.size⟩
 ·exact h
 ·exact h
 ·trivial
section
set_option maxRecDepth 100000
end
end Go.Proofs.YtoncnffdlejbaaaDoor

namespace Go.Proofs.YtoncnffdlejbaaaDoor.Tlk
open Go Go.RowKit
theorem tk_cons {P : Program} {K : Tk} {tg : Bool} (h : TkOk P K tg) {f : Nat} {fs : List Fld} (hf : TlP P f tg fs) : TkOk P ⟨K.tT, K.bool, K.text, K.octs, K.each, K.sorted, K.clos, K.gT, (f, fs) :: K.tells⟩ tg := by
 refine ⟨h.ty, h.bool, h.text, h.octs, fun g gs hg => ?_⟩
 simp only [lkM] at hg
 cases hb : Nat.beq f g with
 | true =>
  rw [hb] at hg
  simp only [cond_true, Option.some.injEq] at hg
  rw [← beq_out hb, ← hg]; exact hf
 | false => rw [hb] at hg; exact h.tells g gs hg
theorem tg_cons {P : Program} {K : Tk} (h : TgOk P K) (f : Nat) (fs : List Fld) : TgOk P ⟨K.tT, K.bool, K.text, K.octs, K.each, K.sorted, K.clos, K.gT, (f, fs) :: K.tells⟩ := ⟨h.each, h.sorted, h.clos⟩
end Go.Proofs.YtoncnffdlejbaaaDoor.Tlk

namespace Go.Proofs.YtoncnffdlejbaaaDoor
open Go Go.RowKit
section
variable {P : Program} {K : Kr} {g : Nat} {ev : Value} {w : World}
end
end Go.Proofs.YtoncnffdlejbaaaDoor

namespace Go.Proofs.YtoncnffdlejbaaaDoor.Rdk
open Go Go.RowKit
set_option maxRecDepth 100000
theorem fn_ustr {w : World} {sb : Nat} {v : Value} {bs : List UInt8} (hv : SrcV w sb v bs) : Calls Tryd.prog 114 #[v] w fun e w' => e = .returned (strV bs) ∧ w' = w := by
 refine enter (vs := [v]) Tryd.func114 rfl Tryd.ntmps114 rfl ?_
 refine wc_seq (wc_region (wl_assign rfl rfl (wl_nil (qk_thn ?_))))
 refine wc_seq (wc_region ?_)
 refine ws rfl rfl ?_
 refine wl_toStr (sb := sb) (bs := bs) rfl hv bytes_ty str_ty rfl ?_
 refine ws rfl rfl ?_
 exact wl_nil (qk_thn (wc_ret (qk_ret1 rfl rfl ⟨rfl, rfl⟩)))
theorem rd_UnsafeString : RdC Tryd.prog 85 .str := by
 intro w rb sb lo st hr h1 h2 h3 h4
 refine enter Tryd.func85 rfl Tryd.ntmps85 rfl ?_
 refine wc_seq (wc_region (wl_assign rfl rfl (wl_nil (qk_thn ?_))))
 refine wc_seq (wc_region ?_)
 refine ws rfl rfl ?_
 refine wl_call rfl (by kernel_rfl) rfl ((int_of_rd rd_Int16 .i16 2 (fun s => rfl) rfl w rb sb lo st hr h1 h2 h3 h4).mono ?_)
 rintro en w1 ⟨m, st1, rfl, hwr, hc1, hr1, hrel⟩
 refine ⟨_, rfl, ?_⟩
 refine ws rfl rfl ?_
 refine wl_nil (qk_thn ?_)
 have hs1 := hc1.size
 have hcnt : CntRel false .i16 2 st m st1 := cnt_i hrel
 have hrange : IntKind.i64.wrap m = m := by rw [wrap_i16] at hwr; rw [IntKind.wrap_i64]; omega
 refine wc_seq (wc_region ?_)
 refine ws rfl rfl ?_
 refine ws rfl rfl ?_
 refine wl_conv .i64 rfl (by kernel_rfl) (by kernel_rfl) rfl hrange ?_
 refine wl_call rfl (by kernel_rfl) rfl ((fn_span w1 rb sb st1 (m) hr1 h4).mono ?_)
 rintro en w2 ⟨v, s1, st2, rfl, hc2, hr2, hsv, hlim, hspan⟩
 refine ⟨_, rfl, ?_⟩
 refine wl_call rfl (by kernel_rfl) rfl ((fn_ustr hsv).mono ?_)
 rintro en w2u ⟨rfl, hu⟩
 obtain rfl : w2 = w2u := hu.symm
 refine ⟨_, rfl, ?_⟩
 have hs2 := hc2.size
 refine ws rfl rfl ?_
 refine wl_nil (qk_thn (wc_ret (qk_ret1 rfl rfl ?_)))
 refine ⟨strV s1, [.lit (strV s1)], st2, rfl, hc1.trans hc2, hr2, reps_lits [_], rfl, fun _ => rfl, ?_⟩
 exact str_rel (c := false) (span_rel hcnt hspan)
theorem rd_UnsafeCompactString : RdC Tryd.prog 84 .cstr := by
 intro w rb sb lo st hr h1 h2 h3 h4
 refine enter Tryd.func84 rfl Tryd.ntmps84 rfl ?_
 refine wc_seq (wc_region (wl_assign rfl rfl (wl_nil (qk_thn ?_))))
 refine wc_seq (wc_region ?_)
 refine ws rfl rfl ?_
 refine wl_call rfl (by kernel_rfl) rfl ((fn_ruv w rb sb st hr h4).mono ?_)
 rintro en w1 ⟨u, st1, rfl, hc1, hr1, hrel⟩
 refine ⟨_, rfl, ?_⟩
 have hul := hrel.1
 refine wl_conv .i64 (r := (u : Int)) rfl (by kernel_rfl) (by kernel_rfl) rfl (by rw [IntKind.wrap_i64]; omega) ?_
 refine wl_sub' (r := (u : Int) - 1) rfl rfl rfl (by rw [IntKind.wrap_i64]; omega) ?_
 refine ws rfl rfl ?_
 refine wl_nil (qk_thn ?_)
 have hs1 := hc1.size
 have hcnt : CntRel true .i16 2 st ((u : Int) - 1) st1 := cnt_u hrel
 refine wc_seq (wc_region ?_)
 refine ws rfl rfl ?_
 refine ws rfl rfl ?_
 refine wl_call rfl (by kernel_rfl) rfl ((fn_span w1 rb sb st1 ((u : Int) - 1) hr1 h4).mono ?_)
 rintro en w2 ⟨v, s1, st2, rfl, hc2, hr2, hsv, hlim, hspan⟩
 refine ⟨_, rfl, ?_⟩
 refine wl_call rfl (by kernel_rfl) rfl ((fn_ustr hsv).mono ?_)
 rintro en w2u ⟨rfl, hu⟩
 obtain rfl : w2 = w2u := hu.symm
 refine ⟨_, rfl, ?_⟩
 have hs2 := hc2.size
 refine ws rfl rfl ?_
 refine wl_nil (qk_thn (wc_ret (qk_ret1 rfl rfl ?_)))
 refine ⟨strV s1, [.lit (strV s1)], st2, rfl, hc1.trans hc2, hr2, reps_lits [_], rfl, fun _ => rfl, ?_⟩
 exact str_rel (c := true) (span_rel hcnt hspan)
def kruFns : List (Nat × Rp) :=
 (85, .str) ::
 (84, .cstr) ::
 krFns
theorem kruFns_ok : ∀ x ∈ kruFns, RdC Tryd.prog x.1 x.2 :=
 allRd_cons rd_UnsafeString <|
 allRd_cons rd_UnsafeCompactString <|
 krFns_ok
def kru : Kr := ⟨kruFns, kr.lens, kr.ok, kr.comp, kr.tags, kr.rty⟩
theorem kru_ok (ev : Value) : KrOk Tryd.prog kru 1 ev :=
 ⟨fun f p h _ => kruFns_ok _ (rpOf_mem h), (kr_ok ev).len, (kr_ok ev).tags, (kr_ok ev).ok, (kr_ok ev).comp⟩
theorem kru_ty : KrTy Tryd.prog kru := ⟨kr_ty.built, kr_ty.zero, kr_ty.size⟩
end Go.Proofs.YtoncnffdlejbaaaDoor.Rdk

namespace Go.Proofs.YtoncnffdlejbaaaDoor
open Go Go.RowKit
inductive CT where
 | b | oc | n (k : IntKind) | s | os | row (st : Bool) (e : List CT) | tg
def isU8s : Nat → List CT → Bool
 | 0, _ => true
 | n + 1, .oc :: l => isU8s n l
 | _, _ => false
def fits : Rp → List CT → Bool
 | .bool, .b :: _ => true
 | .i8, .n .i8 :: _ => true
 | .i16, .n .i16 :: _ => true
 | .i32, .n .i32 :: _ => true
 | .i64, .n .i64 :: _ => true
 | .u16, .n .u16 :: _ => true
 | .uuid, l => isU8s 16 l
 | .str, .s :: _ => true
 | .cstr, .s :: _ => true
 | .nstr, .os :: _ => true
 | .cnstr, .os :: _ => true
 | .bytes, .row false [.oc] :: _ => true
 | .cbytes, .row false [.oc] :: _ => true
 | _, _ => false
def litOk : CT → Value → Bool
 | .b, .bool _ => true
 | .oc, .int .u8 x => decide (x = 0)
 | .n k, .int k' _ => decide (k = k')
 | .s, .string x => Nat.beq x.size 0
 | .os, .pointer none => true
 | .row _ _, .slice none 0 0 => true
 | .tg, .map none => true
 | _, _ => false
def litsOk : List CT → List Value → Bool
 | [], [] => true
 | c :: cs, v :: vs => litOk c v && litsOk cs vs
 | _, _ => false
mutual
def okA : List CT → Ra → Bool
 | cts, .prim p off => fits p (cts.drop off)
 | cts, .row _ _ off st dfl body => match cts.drop off with
  | .row st' e :: _ => (st == st') && litsOk e dfl && okAs e body
  | _ => false
 | cts, .tags off => match cts.drop off with
  | .tg :: _ => true
  | _ => false
def okAs : List CT → List Ra → Bool
 | _, [] => true
 | cts, a :: r => okA cts a && okAs cts r
end
mutual
def Typed (M : Nat) : CT → D → Prop
 | .b, d => ∃ x, d = .lit (.bool x)
 | .oc, d => ∃ c, d = byteD c
 | .n k, d => ∃ x, d = .lit (.int k x)
 | .s, d => ∃ s, d = .lit (strV s) ∧ s.length ≤ M
 | .os, d => d = .lit (.pointer none) ∨ ∃ s, d = .ptr (.lit (strV s)) ∧ s.length ≤ M
 | .row st e, d => d = .lit (.slice none 0 0) ∨ ∃ (nl : Bool) (els : List (List D)), d = .sl nl (els.map (elD st)) ∧ els.length ≤ M ∧ ∀ x ∈ els, Typeds M e x
 | .tg, d => d = .lit (.map none) ∨ ∃ u, d = tagsK u ∧ Rising u ∧ (∀ kv ∈ u, kv.1 < 4294967296 ∧ kv.2.length ≤ M) ∧ u.length ≤ M
def Typeds (M : Nat) : List CT → List D → Prop
 | [], ds => ds = []
 | c :: cs, ds => ∃ d r, ds = d :: r ∧ Typed M c d ∧ Typeds M cs r
end
theorem Typed.unit {M : Nat} : ∀ {c : CT} {d : D}, Typed M c d → d.width = 1
 | .b, d, h => by simp only [Typed] at h; obtain ⟨x, rfl⟩ := h; rfl
 | .n k, d, h => by simp only [Typed] at h; obtain ⟨x, rfl⟩ := h; rfl
 | .oc, d, h => by simp only [Typed] at h; obtain ⟨x, rfl⟩ := h; rfl
 | .s, d, h => by simp only [Typed] at h; obtain ⟨x, rfl, _⟩ := h; rfl
 | .os, d, h => by simp only [Typed] at h; rcases h with rfl | ⟨x, rfl, _⟩ <;> rfl
 | .row st e, d, h => by simp only [Typed] at h; rcases h with rfl | ⟨nl, x, rfl, _⟩ <;> rfl
 | .tg, d, h => by simp only [Typed] at h; rcases h with rfl | ⟨u, rfl, _⟩ <;> rfl
theorem Typeds.len {M : Nat} : ∀ {cs : List CT} {ds : List D}, Typeds M cs ds → ds.length = cs.length ∧ D.widths ds = ds.length
 | [], ds, h => by simp only [Typeds] at h; subst h; exact ⟨rfl, rfl⟩
 | c :: cs, ds, h => by
  simp only [Typeds] at h
  obtain ⟨d, r, rfl, h1, h2⟩ := h
  obtain ⟨k1, k2⟩ := Typeds.len h2
  exact ⟨by simp [k1], by simp [D.widths, h1.unit, k2]; omega⟩
theorem Typeds.split {M : Nat} : ∀ {cs : List CT} {a b : List D}, Typeds M cs (a ++ b) → Typeds M (cs.take a.length) a ∧ Typeds M (cs.drop a.length) b
 | cs, [], b, h => by simpa [Typeds] using h
 | [], x :: a, b, h => by simp [Typeds] at h
 | c :: cs, x :: a, b, h => by
  simp only [List.cons_append, Typeds] at h
  obtain ⟨d, r, e, h1, h2⟩ := h
  simp only [List.cons.injEq] at e
  obtain ⟨rfl, rfl⟩ := e
  obtain ⟨k1, k2⟩ := Typeds.split h2
  simp only [List.length_cons, List.take_succ_cons, List.drop_succ_cons, Typeds]
  exact ⟨⟨_, _, rfl, h1, k1⟩, k2⟩
theorem Typeds.join {M : Nat} : ∀ {c1 c2 : List CT} {a b : List D}, Typeds M c1 a → Typeds M c2 b → Typeds M (c1 ++ c2) (a ++ b)
 | [], c2, a, b, h, k => by simp only [Typeds] at h; subst h; exact k
 | c :: c1, c2, a, b, h, k => by
  simp only [Typeds] at h
  obtain ⟨d, r, rfl, h1, h2⟩ := h
  simp only [List.cons_append, Typeds]
  exact ⟨_, _, rfl, h1, Typeds.join h2 k⟩
end Go.Proofs.YtoncnffdlejbaaaDoor

namespace Go.Proofs.YtoncnffdlejbaaaDoor
open Go Go.RowKit
theorem takeN_len {n : Nat} {s : List UInt8} {x : List UInt8 × List UInt8} (h : takeN n s = some x) : x.1.length ≤ s.length ∧ x.2.length ≤ s.length ∧ x.1.length = n := by
 unfold takeN at h
 split at h
 ·cases h; simp; omega
 ·cases h
theorem intP_len {k : IntKind} {n : Nat} {s : List UInt8} {x : Int × List UInt8} (h : intP k n s = some x) : x.2.length ≤ s.length := by
 simp only [intP, Option.map_eq_some_iff] at h
 obtain ⟨y, hy, rfl⟩ := h
 exact (takeN_len hy).2.1
theorem spanP_len {l : Int} {s : List UInt8} {x : List UInt8 × List UInt8} (h : spanP l s = some x) : x.1.length ≤ s.length ∧ x.2.length ≤ s.length := by
 unfold spanP at h
 split at h
 ·cases h
 ·exact ⟨(takeN_len h).1, (takeN_len h).2.1⟩
theorem uvarR_dec : ∀ (k : Nat) (s : List UInt8) (x : Nat × List UInt8), uvarR k s = some x → x.2.length < s.length ∧ x.1 < 16 * 128 ^ (k - 1)
 | 0, s, x, h => by cases s <;> simp [uvarR] at h
 | k + 1, [], x, h => by simp [uvarR] at h
 | k + 1, c :: r, x, h => by
  rw [uvarR_cons] at h
  split at h
  ·rename_i hk
   subst hk
   split at h
   ·cases h; simp; omega
   ·cases h
  split at h
  ·rename_i hk hc
   cases h
   refine ⟨by simp, ?_⟩
   obtain ⟨q, rfl⟩ : ∃ q, k = q + 1 := ⟨k - 1, by omega⟩
   have : 0 < 128 ^ q := Nat.pow_pos (by decide)
   rw [Nat.add_sub_cancel, Nat.pow_succ]
   omega
  ·rename_i hk hc
   cases hu : uvarR k r with
   | none => rw [hu] at h; cases h
   | some y =>
    rw [hu] at h
    simp only [Option.some.injEq] at h
    subst h
    obtain ⟨h1, h2⟩ := uvarR_dec k r y hu
    obtain ⟨q, rfl⟩ : ∃ q, k = q + 1 := ⟨k - 1, by omega⟩
    rw [Nat.add_sub_cancel] at h2 ⊢
    rw [Nat.pow_succ]
    have hcl := c.toNat_lt
    exact ⟨by simp; omega, by simp only []; omega⟩
theorem uvarP_dec {s : List UInt8} {x : Nat × List UInt8} (h : uvarP s = some x) : x.2.length < s.length ∧ x.1 < 4294967296 := by
 have := uvarR_dec 5 s x h
 refine ⟨this.1, Nat.lt_of_lt_of_le this.2 (by decide)⟩
theorem tagsR_typed {M : Nat} : ∀ (n : Nat) (u : List (Nat × List UInt8)) (s : List UInt8) (x : List (Nat × List UInt8) × List UInt8), tagsR n u s = some x → Rising u → (∀ kv ∈ u, kv.1 < 4294967296 ∧ kv.2.length ≤ M) → u.length + s.length ≤ M →
  Rising x.1 ∧ (∀ kv ∈ x.1, kv.1 < 4294967296 ∧ kv.2.length ≤ M) ∧ x.1.length ≤ M ∧ x.2.length ≤ s.length
 | 0, u, s, x, h, hr, hk, hm => by
  simp only [tagsR, Option.some.injEq] at h
  subst h
  exact ⟨hr, hk, by simp only []; omega, Nat.le_refl _⟩
 | n + 1, u, s, x, h, hr, hk, hm => by
  simp only [tagsR, Option.bind_eq_some_iff] at h
  obtain ⟨a, ha, b, hb, z, hz, h⟩ := h
  obtain ⟨a1, a2⟩ := uvarP_dec ha
  obtain ⟨b1, _⟩ := uvarP_dec hb
  obtain ⟨z1, z2, _⟩ := takeN_len hz
  have hl := setTag_length (k := a.1) (v := z.1) hr
  have hl2 : (setTag a.1 z.1 u).length ≤ u.length + 1 := by rw [hl]; split <;> omega
  obtain ⟨k1, k2, k3, k4⟩ := tagsR_typed (M := M) n _ _ x h (setTag_rising hr) (fun kv hkv => by
   rcases (mem_setTag hr).1 hkv with rfl | ⟨h1, _⟩
   ·exact ⟨a2, by simp only []; omega⟩
   ·exact hk kv h1) (by omega)
  exact ⟨k1, k2, k3, by omega⟩
theorem tagsP_typed {M : Nat} {s : List UInt8} {x : List (Nat × List UInt8) × List UInt8} (h : tagsP s = some x) (hm : s.length ≤ M) :
  Rising x.1 ∧ (∀ kv ∈ x.1, kv.1 < 4294967296 ∧ kv.2.length ≤ M) ∧ x.1.length ≤ M ∧ x.2.length ≤ s.length := by
 simp only [tagsP, Option.bind_eq_some_iff] at h
 obtain ⟨a, ha, h⟩ := h
 obtain ⟨a1, _⟩ := uvarP_dec ha
 obtain ⟨k1, k2, k3, k4⟩ := tagsR_typed (M := M) _ _ _ x h (by simp [Rising]) (by simp) (by simp; omega)
 exact ⟨k1, k2, k3, by omega⟩
end Go.Proofs.YtoncnffdlejbaaaDoor

namespace Go.Proofs.YtoncnffdlejbaaaDoor
open Go Go.RowKit
mutual
def fine : Tree → Prop
 | .mk _ s _ l u => (s.length ≤ lim ∧ l.length ≤ 1000000000 ∧ u.length ≤ 1000000000 ∧ ∀ kv ∈ u, kv.2.length ≤ lim) ∧ fines l
def fines : List Tree → Prop
 | [] => True
 | t :: l => fine t ∧ fines l
end
theorem fines_mem : ∀ {l : List Tree}, fines l → ∀ t ∈ l, fine t
 | [], _, t, h => by cases h
 | x :: l, h, t, ht => by
  simp only [fines] at h
  rcases List.mem_cons.1 ht with rfl | h1
  ·exact h.1
  ·exact fines_mem h.2 t h1
theorem fine_lens {t : Tree} (h : fine t) : t.s.length ≤ lim ∧ t.l.length ≤ 1000000000 ∧ t.u.length ≤ 1000000000 ∧ ∀ kv ∈ t.u, kv.2.length ≤ lim := by cases t; simp only [fine] at h; exact h.1
theorem fine_l {t : Tree} (h : fine t) : ∀ x ∈ t.l, fine x := by cases t; simp only [fine] at h; exact fines_mem h.2
mutual
theorem fine_small : ∀ {t : Tree}, fine t → t.small
 | .mk _ _ _ l u, h => by
  simp only [fine] at h
  simp only [Tree.small]
  exact ⟨⟨h.1.2.1, h.1.2.2.1⟩, fines_smalls h.2⟩
theorem fines_smalls : ∀ {l : List Tree}, fines l → Tree.smalls l
 | [], _ => by simp [Tree.smalls]
 | t :: l, h => by
  simp only [fines] at h
  simp only [Tree.smalls]
  exact ⟨fine_small h.1, fines_smalls h.2⟩
end
def ctV (kind nul : Int) : List CT :=
 if kind = 0 then [.b] else if kind = 1 then [.n .i8] else if kind = 2 then [.n .i16] else if kind = 3 then [.n .i32] else if kind = 5 then [.n .u16]
 else if kind = 7 then List.replicate 16 .oc else if kind = 8 then (if 0 ≤ nul then [.os] else [.s]) else if kind = 9 then [.row false [.oc]] else [.n .i64]
mutual
def ctF (tg : Bool) : Fld → List CT
 | .mk kind _ _ nul _ _ of sub => if kind = 11 then [.row (decide (of = 10)) (if of = 10 then ctFs tg sub ++ (if tg then [.tg] else []) else ctV of (-1))]
  else if kind = 10 then ctFs tg sub ++ (if tg then [.tg] else []) else ctV kind nul
def ctFs (tg : Bool) : List Fld → List CT
 | [] => []
 | f :: fs => ctF tg f ++ ctFs tg fs
end
def ctP (tg : Bool) (fs : List Fld) : List CT := ctFs tg fs ++ (if tg then [.tg] else [])
mutual
def cov : Fld → Bool
 | .mk kind _ _ nul _ _ of sub => (!decide (kind = 10) || decide (nul < 0)) && (!decide (kind = 11) || (!decide (of = 7) && !decide (of = 9) && !decide (of = 11))) && covs sub
def covs : List Fld → Bool
 | [] => true
 | f :: fs => cov f && covs fs
end
def One (R : List D → Tree → Prop) (ds : List D) : Prop := ∃ ds', Imp ds ds' ∧ ∃ T, R ds' T ∧ fine T ∧ ∀ T', R ds' T' → T' = T
theorem oc_typed {M : Nat} : ∀ (n : Nat) (ds : List D), Typeds M (List.replicate n .oc) ds → ∃ s : List UInt8, s.length = n ∧ ds = s.map byteD
 | 0, ds, h => by simp only [List.replicate, Typeds] at h; exact ⟨[], rfl, h⟩
 | n + 1, ds, h => by
  simp only [List.replicate_succ, Typeds, Typed] at h
  obtain ⟨d, r, rfl, ⟨c, rfl⟩, h2⟩ := h
  obtain ⟨s, k1, rfl⟩ := oc_typed n r h2
  exact ⟨c :: s, by simp [k1], rfl⟩
theorem one_of {M : Nat} {c : CT} {ds : List D} (h : Typeds M [c] ds) : ∃ d, ds = [d] ∧ Typed M c d := by
 simp only [Typeds] at h
 obtain ⟨d, r, rfl, h1, h2⟩ := h
 subst h2
 exact ⟨d, rfl, h1⟩
theorem fine_leaf (n : Int) : fine (leafT n) := by simp [leafT, fine, fines]
theorem fine_text {s : List UInt8} (h : s.length ≤ lim) : fine (textT s) := by simp [textT, fine, fines, h]
theorem fine_null : fine nullT := by simp [nullT, fine, fines]
theorem octs_of {M : Nat} : ∀ (els : List (List D)), (∀ x ∈ els, Typeds M [.oc] x) → ∃ s : List UInt8, s.length = els.length ∧ els = s.map fun c => [byteD c]
 | [], _ => ⟨[], rfl, rfl⟩
 | x :: els, h => by
  obtain ⟨s, k1, k2⟩ := octs_of els (fun y hy => h y (by simp [hy]))
  obtain ⟨d, rfl, h1⟩ := one_of (h x (by simp))
  simp only [Typed] at h1
  obtain ⟨c, rfl⟩ := h1
  exact ⟨c :: s, by simp [k1], by simp [k2]⟩
theorem v_told {M : Nat} (hM : M ≤ lim) {kind nul : Int} {ds : List D} (h : Typeds M (ctV kind nul) ds) : One (fun ds' T => ∃ d, ds' = [d] ∧ TellV kind nul d T) ds := by
 have mk : ∀ (d : D) (T : Tree), TellV kind nul d T → fine T → (∀ T', TellV kind nul d T' → T' = T) → Imp ds [d] → One (fun ds' T => ∃ d, ds' = [d] ∧ TellV kind nul d T) ds := by
  intro d T h1 h2 h3 h4
  refine ⟨[d], h4, T, ⟨d, rfl, h1⟩, h2, ?_⟩
  rintro T' ⟨d', e, h5⟩
  simp only [List.cons.injEq, and_true] at e
  subst e
  exact h3 T' h5
 have num : ∀ (k : IntKind) (g : Int → Tree), (∀ n, fine (g n)) → (∀ d T, TellV kind nul d T ↔ ∃ n, d = .lit (.int k n) ∧ T = g n) → Typeds M [.n k] ds → One (fun ds' T => ∃ d, ds' = [d] ∧ TellV kind nul d T) ds := by
  intro k g hg hT ht
  obtain ⟨d, rfl, h1⟩ := one_of ht
  simp only [Typed] at h1
  obtain ⟨x, rfl⟩ := h1
  refine mk _ (g x) ((hT _ _).2 ⟨x, rfl, rfl⟩) (hg x) (fun T' h' => ?_) (Imp.refl _)
  obtain ⟨n, e, rfl⟩ := (hT _ _).1 h'
  simp only [D.lit.injEq, Value.int.injEq, true_and] at e
  rw [e]
 unfold ctV at h
 by_cases h0 : kind = 0
 ·simp only [h0, if_true] at h
  obtain ⟨d, rfl, h1⟩ := one_of h
  simp only [Typed] at h1
  obtain ⟨x, rfl⟩ := h1
  subst h0
  refine mk _ (leafT (if x then 1 else 0)) (by simp only [TellV, if_true]; exact ⟨x, rfl, rfl⟩) (fine_leaf _) (fun T' h' => ?_) (Imp.refl _)
  simp only [TellV, if_true] at h'
  obtain ⟨b, e, rfl⟩ := h'
  simp only [D.lit.injEq, Value.bool.injEq] at e
  rw [e]
 simp only [h0, if_false] at h
 by_cases h1 : kind = 1
 ·subst h1
  exact num .i8 (fun n => leafT (IntKind.i64.wrap n)) (fun _ => fine_leaf _) (fun d T => by simp [TellV, kindInt]) (by simpa using h)
 simp only [h1, if_false] at h
 by_cases h2 : kind = 2
 ·subst h2
  exact num .i16 (fun n => leafT (IntKind.i64.wrap n)) (fun _ => fine_leaf _) (fun d T => by simp [TellV, kindInt]) (by simpa using h)
 simp only [h2, if_false] at h
 by_cases h3 : kind = 3
 ·subst h3
  exact num .i32 (fun n => leafT (IntKind.i64.wrap n)) (fun _ => fine_leaf _) (fun d T => by simp [TellV, kindInt]) (by simpa using h)
 simp only [h3, if_false] at h
 by_cases h5 : kind = 5
 ·subst h5
  exact num .u16 (fun n => leafT (IntKind.i64.wrap n)) (fun _ => fine_leaf _) (fun d T => by simp [TellV, kindInt]) (by simpa using h)
 simp only [h5, if_false] at h
 by_cases h7 : kind = 7
 ·subst h7
  simp only [if_true] at h
  obtain ⟨s, hl, rfl⟩ := oc_typed _ _ h
  refine mk (.agg (s.map byteD)) (textT s) (by simp only [TellV]; exact ⟨s, hl, rfl, rfl⟩) (fine_text (by rw [hl]; simp only [lim]; omega)) (fun T' h' => ?_) (imp_agg _)
  simp only [TellV] at h'
  obtain ⟨s', _, e, rfl⟩ := h'
  simp only [D.agg.injEq] at e
  rw [bytes_inj e]
 simp only [h7, if_false] at h
 by_cases h8 : kind = 8
 ·subst h8
  simp only [if_true] at h
  by_cases hn : 0 ≤ nul
  ·simp only [hn, if_true] at h
   obtain ⟨d, rfl, h1⟩ := one_of h
   simp only [Typed] at h1
   rcases h1 with rfl | ⟨s, rfl, hs⟩
   ·refine mk _ nullT (by simp [TellV, hn]) fine_null (fun T' h' => ?_) (Imp.refl _)
    simpa [TellV, hn] using h'
   ·refine mk _ (textT s) (by simp [TellV, hn]; exact ⟨s, rfl, rfl⟩) (fine_text (by omega)) (fun T' h' => ?_) (Imp.refl _)
    simp [TellV, hn] at h'
    obtain ⟨s', e, rfl⟩ := h'
    rw [strV_inj e]
  ·simp only [hn, if_false] at h
   obtain ⟨d, rfl, h1⟩ := one_of h
   simp only [Typed] at h1
   obtain ⟨s, rfl, hs⟩ := h1
   refine mk _ (textT s) (by simp [TellV, hn]; exact ⟨s, rfl, rfl⟩) (fine_text (by omega)) (fun T' h' => ?_) (Imp.refl _)
   simp [TellV, hn] at h'
   obtain ⟨s', e, rfl⟩ := h'
   rw [strV_inj e]
 simp only [h8, if_false] at h
 by_cases h9 : kind = 9
 ·subst h9
  simp only [if_true] at h
  obtain ⟨d, rfl, h1⟩ := one_of h
  simp only [Typed] at h1
  have fin : ∀ (s : List UInt8) (b : Bool), s.length ≤ lim → Imp [d] [.sl b (s.map byteD)] → One (fun ds' T => ∃ d, ds' = [d] ∧ TellV 9 nul d T) [d] := by
   intro s b hs hi
   refine mk _ (.mk 0 s b [] []) ?_ (by simp [fine, fines, hs]) (fun T' h' => ?_) hi
   ·simp only [TellV]
    exact ⟨s, b, ⟨rfl, hs⟩, .inl rfl⟩
   ·simp only [TellV] at h'
    obtain ⟨s', b', ⟨rfl, _⟩, h'⟩ := h'
    rcases h' with h' | ⟨h', _⟩
    ·simp only [D.sl.injEq] at h'
     rw [bytes_inj h'.2, h'.1]
    ·cases h'
  rcases h1 with rfl | ⟨nl, els, rfl, hl, he⟩
  ·exact fin [] true (by simp) imp_nilSl
  ·obtain ⟨s, hs, rfl⟩ := octs_of els he
   refine fin s nl (by rw [List.length_map] at hl; omega) ?_
   rw [List.map_map]
   exact Imp.refl _
 simp only [h9, if_false] at h
 refine num .i64 leafT (fun _ => fine_leaf _) (fun d T => ?_) h
 simp [TellV, kindInt, h0, h1, h2, h3, h5, h7, h8, h9]
end Go.Proofs.YtoncnffdlejbaaaDoor

namespace Go.Proofs.YtoncnffdlejbaaaDoor
open Go Go.RowKit
theorem imp_trans {a b c : List D} (h : Imp a b) (k : Imp b c) : Imp a c := fun ok w cs hr => k ok w cs (h ok w cs hr)
theorem tags_one {M : Nat} (hM : M ≤ 1000000000) {tg : Bool} {ds : List D} (h : Typeds M (if tg then [.tg] else []) ds) : ∃ u, Imp ds (TellTags tg u) ∧ (tg = true → OkTags u) ∧ (tg = false → u = []) ∧ u.length ≤ 1000000000 ∧ ∀ kv ∈ u, kv.2.length ≤ lim := by
 cases tg with
 | false =>
  simp only [Bool.false_eq_true, if_false, Typeds] at h
  subst h
  exact ⟨[], Imp.refl _, fun h => (by cases h), fun _ => rfl, by simp, by simp⟩
 | true =>
  simp only [if_true] at h
  obtain ⟨d, rfl, h1⟩ := one_of h
  simp only [Typed] at h1
  rcases h1 with rfl | ⟨u, rfl, k1, k2, k3⟩
  ·exact ⟨[], imp_nilMp, fun _ => ⟨by simp [Rising], by simp, by simp⟩, fun h => (by cases h), by simp, by simp⟩
  ·exact ⟨u, Imp.refl _, fun _ => ⟨k1, fun kv hkv => ⟨(k2 kv hkv).1, by have := (k2 kv hkv).2; simp only [lim]; omega⟩, by omega⟩, fun h => (by cases h), by omega, fun kv hkv => by have := (k2 kv hkv).2; simp only [lim]; omega⟩
theorem tellTags_inj {tg : Bool} {u v : List (Nat × List UInt8)} (h : TellTags tg u = TellTags tg v) : (if tg then u else []) = (if tg then v else []) := by
 cases tg with
 | false => rfl
 | true =>
  simp only [TellTags, if_true, List.cons.injEq, and_true] at h
  simp only [if_true]
  exact tagsK_inj h
theorem p_told {M : Nat} (hM : M ≤ 1000000000) {tg : Bool} {fs : List Fld} (hl : fs.length ≤ 1000) (hF : ∀ ds, Typeds M (ctFs tg fs) ds → ∃ ds', Imp ds ds' ∧ ∃ l, TellFs tg fs ds' l ∧ (l.length = fs.length ∧ fines l) ∧ ∀ l', TellFs tg fs ds' l' → l' = l)
  {ds : List D} (h : Typeds M (ctP tg fs) ds) : One (TellP tg fs) ds := by
 unfold ctP at h
 obtain ⟨a, b, rfl, ha, hb⟩ : ∃ a b, ds = a ++ b ∧ Typeds M (ctFs tg fs) a ∧ Typeds M (if tg then [.tg] else []) b := by
  have hlen := h.len.1
  rw [List.length_append] at hlen
  have hs := Typeds.split (M := M) (cs := ctFs tg fs ++ (if tg then [.tg] else [])) (a := ds.take (ctFs tg fs).length) (b := ds.drop (ctFs tg fs).length) (by rw [List.take_append_drop]; exact h)
  have hk : (ds.take (ctFs tg fs).length).length = (ctFs tg fs).length := by rw [List.length_take]; omega
  rw [hk, List.take_left, List.drop_left] at hs
  exact ⟨_, _, (List.take_append_drop _ _).symm, hs.1, hs.2⟩
 obtain ⟨a', i1, l, t1, ⟨t2, t3⟩, t4⟩ := hF a ha
 obtain ⟨u, i2, u1, u2, u3, u4⟩ := tags_one hM hb
 refine ⟨a' ++ TellTags tg u, Imp.app i1 i2, .mk 0 [] false l (if tg then u else []), ⟨a', u, rfl, rfl, u1, t1⟩, ?_, ?_⟩
 ·simp only [fine]
  refine ⟨⟨by simp, by omega, ?_, ?_⟩, t3⟩
  ·cases tg <;> simp [u3]
  ·cases tg with
   | false => simp
   | true => exact u4
 ·rintro T' ⟨a2, v, e, hT, _, hs⟩
  obtain ⟨e1, e2⟩ := split_cnt e (by rw [tellFs_cnt t1, tellFs_cnt hs])
  subst e1
  rw [hT, t4 _ hs, ← tellTags_inj e2]
theorem elems_told {M : Nat} {st tg : Bool} {kind : Int} {sub : List Fld} {e : List CT} (hE : ∀ x, Typeds M e x → ∃ d', Imp [elD st x] [d'] ∧ ∃ T, TellE tg kind sub d' T ∧ fine T ∧ ∀ T', TellE tg kind sub d' T' → T' = T) : ∀ (els : List (List D)), (∀ x ∈ els, Typeds M e x) →
  ∃ els' Ts, els'.length = els.length ∧ Ts.length = els.length ∧ Imp (els.map (elD st)) els' ∧ (∀ (i : Nat) (d : D) (x : Tree), els'[i]? = some d → Ts[i]? = some x → TellE tg kind sub d x) ∧ fines Ts ∧ ∀ Ts' : List Tree, Ts'.length = els'.length → (∀ (i : Nat) (d : D) (x : Tree), els'[i]? = some d → Ts'[i]? = some x → TellE tg kind sub d x) → Ts' = Ts
 | [], _ => ⟨[], [], rfl, rfl, Imp.refl _, fun i d x h => by simp at h, by simp [fines], fun Ts' h _ => List.eq_nil_of_length_eq_zero h⟩
 | y :: els, h => by
  obtain ⟨d', i1, T, t1, t2, t3⟩ := hE y (h y (by simp))
  obtain ⟨els', Ts, k1, k2, k3, k4, k5, k6⟩ := elems_told hE els (fun x hx => h x (by simp [hx]))
  refine ⟨d' :: els', T :: Ts, by simp [k1], by simp [k2], Imp.app (a := [elD st y]) (b := [d']) i1 k3, ?_, by simp only [fines]; exact ⟨t2, k5⟩, ?_⟩
  ·intro i d x h1 h2
   cases i with
   | zero =>
    simp only [List.getElem?_cons_zero, Option.some.injEq] at h1 h2
    subst h1; subst h2; exact t1
   | succ i => exact k4 i d x (by simpa using h1) (by simpa using h2)
  ·intro Ts' hl ht
   cases Ts' with
   | nil => simp at hl
   | cons x r =>
    have h1 := t3 x (ht 0 d' x rfl rfl)
    have h2 := k6 r (by simpa using hl) (fun i d y h1 h2 => ht (i + 1) d y (by simpa using h1) (by simpa using h2))
    rw [h1, h2]
theorem e_told {M : Nat} (hM : M ≤ 1000000000) {tg : Bool} {of : Int} {sub : List Fld} (h7 : of ≠ 7) (h9 : of ≠ 9) (hP : of = 10 → ∀ ds, Typeds M (ctP tg sub) ds → One (TellP tg sub) ds) {x : List D} (h : Typeds M (if of = 10 then ctP tg sub else ctV of (-1)) x) :
  ∃ d', Imp [elD (decide (of = 10)) x] [d'] ∧ ∃ T, TellE tg of sub d' T ∧ fine T ∧ ∀ T', TellE tg of sub d' T' → T' = T := by
 by_cases h10 : of = 10
 ·simp only [h10, if_true] at h
  obtain ⟨ds', i1, T, t1, t2, t3⟩ := hP h10 x h
  subst h10
  refine ⟨.agg ds', ?_, T, by simp only [TellE, if_true]; exact ⟨_, rfl, t1⟩, t2, ?_⟩
  ·refine Imp.one (fun ok w cs hr => ?_)
   simp only [elD, decide_true, if_true, Rep] at hr ⊢
   exact i1 ok w cs hr
  ·intro T' h'
   simp only [TellE, if_true] at h'
   obtain ⟨ps, e, h'⟩ := h'
   simp only [D.agg.injEq] at e
   subst e
   exact t3 T' h'
 ·simp only [h10, if_false] at h
  obtain ⟨ds', i1, T, ⟨d, rfl, t1⟩, t2, t3⟩ := v_told (M := M) (by simp only [lim]; omega) h
  have hlen : x.length = 1 := by
   rw [h.len.1]
   unfold ctV
   simp only [h7, h9, if_false]
   repeat' split
   all_goals first | rfl | omega
  obtain ⟨y, rfl⟩ : ∃ y, x = [y] := by
   match x, hlen with
   | [y], _ => exact ⟨y, rfl⟩
  refine ⟨d, ?_, T, by simp only [TellE, h10, if_false]; exact t1, t2, ?_⟩
  ·simp only [elD, h10, decide_false, Bool.false_eq_true, if_false]
   exact i1
  ·intro T' h'
   simp only [TellE, h10, if_false] at h'
   exact t3 T' ⟨d, rfl, h'⟩
mutual
theorem f_told {M : Nat} (hM : M ≤ 1000000000) (tg : Bool) : ∀ (f : Fld), cov f = true → f.okb = true → ∀ ds, Typeds M (ctF tg f) ds → One (TellF tg f) ds
 | .mk kind fr upto nul tag df of sub, hc, hk, ds, h => by
  simp only [cov, Bool.and_eq_true, Bool.or_eq_true, Bool.not_eq_true', decide_eq_false_iff_not, decide_eq_true_eq] at hc
  obtain ⟨⟨h10n, h11n⟩, hcs⟩ := hc
  simp only [Fld.okb, Bool.and_eq_true] at hk
  have hl : sub.length ≤ 1000 := Nat.le_of_ble_eq_true hk.1.2
  have hP : ∀ ds, Typeds M (ctP tg sub) ds → One (TellP tg sub) ds := fun ds hd => p_told hM hl (fs_told hM tg sub hcs hk.2) hd
  simp only [ctF] at h
  by_cases h11 : kind = 11
  ·simp only [h11, if_true] at h
   obtain ⟨⟨o7, o9⟩, o11⟩ := h11n.resolve_left (fun e => e h11)
   obtain ⟨d, rfl, h1⟩ := one_of h
   have hE := fun x hx => e_told hM (tg := tg) (of := of) (sub := sub) o7 o9 (fun _ => hP) (x := x) hx
   simp only [Typed] at h1
   have fin : ∀ (nl : Bool) (els : List (List D)), els.length ≤ M → (∀ x ∈ els, Typeds M (if of = 10 then ctP tg sub else ctV of (-1)) x) → ∀ d, Imp [d] [.sl nl (els.map (elD (decide (of = 10))))] → One (TellF tg (.mk kind fr upto nul tag df of sub)) [d] := by
    intro nl els hm hx d hi
    obtain ⟨els', Ts, k1, k2, k3, k4, k5, k6⟩ := elems_told hE els hx
    refine ⟨[.sl nl els'], imp_trans hi (imp_sl (by simp [k1]) k3), .mk 0 [] nl Ts [], ?_, ?_, ?_⟩
    ·rw [TellF_mk]
     simp only [h11, if_true]
     exact ⟨_, els', rfl, rfl, .inl rfl, by simp only [Tree.l]; omega, by omega, k4⟩
    ·simp only [fine]
     exact ⟨⟨by simp, by omega, by simp, by simp⟩, k5⟩
    ·intro T' hT
     rw [TellF_mk] at hT
     simp only [h11, if_true] at hT
     obtain ⟨d2, els2, e1, e2, e3, e4, e5, e6⟩ := hT
     simp only [List.cons.injEq, and_true] at e1
     subst e1
     rcases e3 with e3 | ⟨e3, _⟩
     ·simp only [D.sl.injEq] at e3
      obtain ⟨rfl, rfl⟩ := e3
      exact e2.trans (by rw [k6 T'.l e4 e6])
     ·cases e3
   rcases h1 with rfl | ⟨nl, els, rfl, hm, hx⟩
   ·exact fin true [] (by simp) (by simp) _ imp_nilSl
   ·exact fin nl els hm hx _ (Imp.refl _)
  ·simp only [h11, if_false] at h
   by_cases h10 : kind = 10
   ·simp only [h10, if_true] at h
    obtain ⟨ds', i1, T, t1, t2, t3⟩ := hP ds h
    refine ⟨ds', i1, T, ?_, t2, fun T' h' => t3 T' ?_⟩
    ·rw [TellF_mk]; simp only [h11, h10, if_false, if_true]; simp only [show ¬ ((10 : Int) = 11) by decide, if_false]; exact t1
    ·rw [TellF_mk] at h'; simp only [h10, if_true] at h'; simpa only [show ¬ ((10 : Int) = 11) by decide, if_false] using h'
   ·simp only [h10, if_false] at h
    obtain ⟨ds', i1, T, t1, t2, t3⟩ := v_told (M := M) (by simp only [lim]; omega) h
    refine ⟨ds', i1, T, ?_, t2, fun T' h' => t3 T' ?_⟩
    ·rw [TellF_mk]; simp only [h11, h10, if_false]; exact t1
    ·rw [TellF_mk] at h'; simpa only [h11, h10, if_false] using h'
theorem fs_told {M : Nat} (hM : M ≤ 1000000000) (tg : Bool) : ∀ (fs : List Fld), covs fs = true → Fld.oksb fs = true → ∀ ds, Typeds M (ctFs tg fs) ds → ∃ ds', Imp ds ds' ∧ ∃ l, TellFs tg fs ds' l ∧ (l.length = fs.length ∧ fines l) ∧ ∀ l', TellFs tg fs ds' l' → l' = l
 | [], _, _, ds, h => by
  simp only [ctFs, Typeds] at h
  subst h
  exact ⟨[], Imp.refl _, [], by simp [TellFs], ⟨rfl, by simp [fines]⟩, fun l' h' => by simp only [TellFs] at h'; exact h'.2⟩
 | f :: fs, hc, hk, ds, h => by
  simp only [covs, Bool.and_eq_true] at hc
  simp only [Fld.oksb, Bool.and_eq_true] at hk
  simp only [ctFs] at h
  obtain ⟨a, b, rfl, ha, hb⟩ : ∃ a b, ds = a ++ b ∧ Typeds M (ctF tg f) a ∧ Typeds M (ctFs tg fs) b := by
   have hlen := h.len.1
   rw [List.length_append] at hlen
   have hs := Typeds.split (M := M) (cs := ctF tg f ++ ctFs tg fs) (a := ds.take (ctF tg f).length) (b := ds.drop (ctF tg f).length) (by rw [List.take_append_drop]; exact h)
   have hk : (ds.take (ctF tg f).length).length = (ctF tg f).length := by rw [List.length_take]; omega
   rw [hk, List.take_left, List.drop_left] at hs
   exact ⟨_, _, (List.take_append_drop _ _).symm, hs.1, hs.2⟩
  obtain ⟨a', i1, T, t1, t2, t3⟩ := f_told hM tg f hc.1 hk.1 a ha
  obtain ⟨b', i2, l, s1, ⟨s2, s3⟩, s4⟩ := fs_told hM tg fs hc.2 hk.2 b hb
  refine ⟨a' ++ b', Imp.app i1 i2, T :: l, ?_, ⟨by simp [s2], by simp only [fines]; exact ⟨t2, s3⟩⟩, ?_⟩
  ·simp only [TellFs]; exact ⟨_, _, _, _, rfl, rfl, t1, s1⟩
  ·intro l' h'
   simp only [TellFs] at h'
   obtain ⟨p, q, x, r, e, rfl, g1, g2⟩ := h'
   obtain ⟨e1, e2⟩ := split_cnt e (by rw [tellF_cnt t1, tellF_cnt g1])
   subst e1; subst e2
   rw [t3 x g1, s4 r g2]
end
theorem told_P {M : Nat} (hM : M ≤ 1000000000) {tg : Bool} {fs : List Fld} (hc : covs fs = true) (hk : fsok fs = true) {ds : List D} (h : Typeds M (ctP tg fs) ds) : One (TellP tg fs) ds := by
 unfold fsok at hk
 rw [Bool.and_eq_true] at hk
 exact p_told hM (Nat.le_of_ble_eq_true hk.2) (fs_told hM tg fs hc hk.1) h
end Go.Proofs.YtoncnffdlejbaaaDoor

namespace Go.Proofs.YtoncnffdlejbaaaDoor.Sam
open Go Go.RowKit
def SamOK (t : Tree) : Prop := ∀ (B : Nat) (w : World) (xs ys : List Value), fine t → B ≤ w.heap.size → Rep (Lo B) w (treeD t) xs → Rep (Lo B) w (treeD t) ys →
 Fn 12 [.agg xs.toArray, .agg ys.toArray] w fun v _ => v = .bool true
section
set_option maxRecDepth 100000
theorem sam_of (t : Tree) (hF : ∀ x ∈ t.l, SamOK x) : SamOK t := by
 intro B w xs ys hsm hB ha hb
 obtain ⟨sv, lv, uv, rfl, hs, hl, hu⟩ := tree_cells ha
 obtain ⟨sv', lv', uv', rfl, hs', hl', hu'⟩ := tree_cells hb
 obtain ⟨la, lc, rfl, _⟩ := hl.shape
 obtain ⟨sa, sc, rfl, _⟩ := hs.shape
 obtain ⟨ua, uc, rfl, _⟩ := hu.shape
 obtain ⟨la', lc', rfl, _⟩ := hl'.shape
 obtain ⟨sa', sc', rfl, _⟩ := hs'.shape
 obtain ⟨ua', uc', rfl, _⟩ := hu'.shape
 obtain ⟨hss, hll, hul, hut⟩ := fine_lens hsm
 refine enter Tryd.func12 rfl Tryd.ntmps12 rfl ?_
 repeat (with_reducible first|apply wc_seq|apply wc_region)
 refine wl_box1 rfl rfl rfl (fun w1 hb1 hg1 hs1 => wl_box1 rfl rfl rfl (fun w2 hb2 hg2 hs2 => ?_))
 have hba : Box w2 w.heap.size [.int .i64 t.n, .slice sa (t.s.map byteD).length sc, .bool t.nul, .slice la (t.l.map treeD).length lc, .slice ua (t.u.map tagD).length uc] 35 := hb1.kept hg2 (by simp)
 have hw2 : Below w.heap.size w w2 := (below_of hg1 (Nat.le_refl _) (by simp)).trans (below_of hg2 (by omega) (by simp))
 repeat first|(with_reducible first|apply wc_seq|apply wc_region|apply wl_nil|apply qk_thn)|((with_reducible apply ws);exact rfl;exact rfl)
 refine wl_loadB rfl to_i64 rfl hba rfl ?_
 repeat ((with_reducible apply ws);exact rfl;exact rfl)
 refine wl_loadB rfl to_i64 rfl hb2 rfl ?_
 repeat ((with_reducible apply ws);exact rfl;exact rfl)
 rw [bne_self_eq_false]
 repeat first|((with_reducible apply ws);exact rfl;exact rfl)|((with_reducible apply wl_yes);exact rfl;exact rfl;exact rfl)
 refine wl_loadB rfl to_bool rfl hba rfl ?_
 repeat first|((with_reducible apply ws);exact rfl;exact rfl)|((with_reducible apply wl_yes);exact rfl;exact rfl;exact rfl)
 refine wl_loadB rfl to_bool rfl hb2 rfl ?_
 repeat ((with_reducible apply wl_yes);exact rfl;exact rfl;exact rfl)
 refine wl_neqB rfl rfl Tryd.underlying4 rfl ?_
 rw [bne_self_eq_false]
 repeat first|((with_reducible apply ws);exact rfl;exact rfl)|((with_reducible apply wl_yes);exact rfl;exact rfl;exact rfl)
 refine wl_loadB rfl to_bytes rfl hba rfl ?_
 repeat first|((with_reducible apply ws);exact rfl;exact rfl)|((with_reducible apply wl_yes);exact rfl;exact rfl;exact rfl)
 refine wl_loadB rfl to_bytes rfl hb2 rfl ?_
 repeat ((with_reducible apply wl_yes);exact rfl;exact rfl;exact rfl)
 refine wl_call rfl (by kernel_rfl) rfl ((fn_same _ _ t.s t.s w2 ((hs.below (hw2.mono hB) (Nat.le_refl _)).bytes) ((hs'.below (hw2.mono hB) (Nat.le_refl _)).bytes) hss hss).mono ?_)
 rintro e w3 ⟨v, rfl, hw23, rfl⟩
 refine ⟨_, rfl, ?_⟩
 rw [beq_self_eq_true]
 have hw3 := hw2.trans (hw23.mono (by omega))
 have hba3 := hba.below hw23 (by omega)
 have hb3 := hb2.below hw23 (by omega)
 repeat first|((with_reducible apply ws);exact rfl;exact rfl)|((with_reducible apply wl_yes);exact rfl;exact rfl;exact rfl)
 refine wl_loadB rfl to_trees rfl hba3 rfl ?_
 repeat first|((with_reducible apply ws);exact rfl;exact rfl)|((with_reducible apply wl_yes);exact rfl;exact rfl;exact rfl)
 refine wl_loadB rfl to_trees rfl hb3 rfl ?_
 repeat first|((with_reducible apply ws);exact rfl;exact rfl)|((with_reducible apply wl_yes);exact rfl;exact rfl;exact rfl)
 rw [bne_self_eq_false]
 repeat first|((with_reducible apply ws);exact rfl;exact rfl)|((with_reducible apply wl_yes);exact rfl;exact rfl;exact rfl)
 refine wl_loadB rfl to_tags rfl hba3 rfl ?_
 repeat first|((with_reducible apply ws);exact rfl;exact rfl)|((with_reducible apply wl_yes);exact rfl;exact rfl;exact rfl)
 refine wl_loadB rfl to_tags rfl hb3 rfl ?_
 repeat first|(with_reducible first|apply wl_nil|apply qk_thn)|((with_reducible apply ws);exact rfl;exact rfl)|((with_reducible apply wl_yes);exact rfl;exact rfl;exact rfl)
 rw [bne_self_eq_false]
 skip
 refine wc_no rfl rfl ?_
 repeat first|(with_reducible first|apply wc_seq|apply wc_region|apply qk_thn|apply wc_skip)|((with_reducible apply ws);exact rfl;exact rfl)
 refine wl_loadB rfl to_trees rfl hba3 rfl ?_
 repeat first|(with_reducible first|apply wl_nil|apply qk_thn|apply wc_block)|((with_reducible apply ws);exact rfl;exact rfl)
 rw [show (t.l.map treeD).length = t.l.length from List.length_map .., show (t.u.map tagD).length = t.u.length from List.length_map ..] at *
 refine wc_loop (α := Nat) (fun i => [(48, .int .i64 (i : Int)), (47, .int .i64 (t.l.length : Int)), (2, .pointer (some ⟨w.heap.size, 0, none⟩)), (3, .pointer (some ⟨w1.heap.size, 0, none⟩))]) (fun i w' => i ≤ t.l.length ∧ Below w3.heap.size w3 w') (fun i => t.l.length - i) 0 ⟨rfl, rfl, rfl, rfl, trivial⟩ ⟨Nat.zero_le _, Below.refl _ _⟩ ?_
 rintro i w4 ⟨hi, hw34⟩
 have hw4 := hw3.trans (hw34.mono hw3.size)
 have hz3 := hw23.size
 have hz4 := hw34.size
 repeat first|(with_reducible first|apply wc_seq|apply wc_region|apply wl_nil|apply qk_thn)|((with_reducible apply ws);exact rfl;exact rfl)
 by_cases hlt : i < t.l.length
 ·refine wc_yes rfl (by simpa using hlt) ?_
  obtain ⟨b, off, c', cs, hv, _, hcs, hcl, hr⟩ := (hl.below (hw4.mono hB) (Nat.le_refl _)).get (sz := 5) (i := i) (by intro d hd; obtain ⟨x, _, rfl⟩ := List.mem_map.1 hd; exact treeD_width x) (by simpa using hlt)
  simp only [Value.slice.injEq, List.length_map] at hv
  obtain ⟨rfl, _, rfl⟩ := hv
  simp only [List.getElem_map] at hr
  obtain ⟨b', off', c'', cs', hv', _, hcs', hcl', hr'⟩ := (hl'.below (hw4.mono hB) (Nat.le_refl _)).get (sz := 5) (i := i) (by intro d hd; obtain ⟨x, _, rfl⟩ := List.mem_map.1 hd; exact treeD_width x) (by simpa using hlt)
  simp only [Value.slice.injEq, List.length_map] at hv'
  obtain ⟨rfl, _, rfl⟩ := hv'
  simp only [List.getElem_map] at hr'
  repeat first|(with_reducible first|apply wc_seq|apply wc_region|apply wl_nil|apply qk_thn|apply wc_block|apply wc_skip)|((with_reducible apply ws);exact rfl;exact rfl)
  refine wc_par [(0, .pointer (some ⟨w.heap.size, 0 + 3, none⟩)), (1, .slice (some ⟨b, off, none⟩) t.l.length lc), (2, .int .i64 (i : Int)), (3, .pointer (some ⟨b, off + i * 5, none⟩)), (4, .agg cs.toArray), (5, .pointer (some ⟨w1.heap.size, 0 + 3, none⟩)), (6, .slice (some ⟨b', off', none⟩) t.l.length lc'), (7, .int .i64 (i : Int)), (8, .pointer (some ⟨b', off' + i * 5, none⟩)), (9, .agg cs'.toArray)] [11, 10]
   (fun vals w' => Below w4.heap.size w4 w' ∧ match vals with
    | [] => True
    | [v] => v = .bool true
    | v :: _ => v = .bool false)
   mixed rfl rfl rfl rfl rfl (by show ([0,1,2,3,4,5,6,7,8,9] : List Nat).Nodup; decide) rfl rfl (by decide) rfl rfl rfl rfl ⟨(Below.refl _ w4).drew, trivial⟩ ?_ ⟨?_, ?_, trivial⟩ ?_
  ·intro p hp vals w' hC a k
   have hw35 := hw34.trans (hC.1.mono (by omega))
   simp only [List.mem_cons, List.not_mem_nil, or_false] at hp
   rcases hp with rfl | rfl | rfl | rfl | rfl | rfl | rfl | rfl | rfl | rfl
   ·exact gv rfl rfl (rn_fieldAddr k rfl fo_tree3)
   ·exact gv rfl rfl (rn_load k rfl to_trees ((hba3.below hw35 (by omega)).cell0 (i := 3) rfl))
   ·exact gv rfl rfl (rn_move k rfl)
   ·exact gv rfl rfl (rn_indexAddr k rfl rfl es_trees hlt)
   ·exact gv rfl rfl (rn_loadAgg k rfl (by rw [hcl]; exact ta_tree) (fun j v e => (CellsAt.of_block hcs (hC.1.block b (CellsAt.lt hcs))).cell e))
   ·exact gv rfl rfl (rn_fieldAddr k rfl fo_tree3)
   ·exact gv rfl rfl (rn_load k rfl to_trees ((hb3.below hw35 (by omega)).cell0 (i := 3) rfl))
   ·exact gv rfl rfl (rn_move k rfl)
   ·exact gv rfl rfl (rn_indexAddr k rfl rfl es_trees hlt)
   ·exact gv rfl rfl (rn_loadAgg k rfl (by rw [hcl']; exact ta_tree) (fun j v e => (CellsAt.of_block hcs' (hC.1.block b' (CellsAt.lt hcs'))).cell e))
  ·rintro vals w' hvl ⟨hb', hC⟩ a k
   match vals, hvl with
   | [v10], _ =>
    simp only [] at hC
    subst hC
    exact ⟨_, rfl, does_not k rfl ⟨hb', rfl⟩⟩
  ·rintro vals w' hvl ⟨hb', hC⟩ a k
   match vals, hvl with
   | [], _ =>
    have hw5 := hw4.trans (hb'.mono hw4.size)
    refine ⟨_, rfl, does_call k rfl (by kernel_rfl) ((hF t.l[i] (List.getElem_mem hlt) B w' _ _ (fine_l hsm _ (List.getElem_mem hlt)) (by have := hw5.size; omega) (Rep.below hr (hb'.mono (by have := hw4.size; omega)) (Nat.le_refl _)) (Rep.below hr' (hb'.mono (by have := hw4.size; omega)) (Nat.le_refl _))).mono ?_)⟩
    rintro e w'' ⟨v, rfl, hb'', rfl⟩
    exact ⟨_, rfl, hb'.trans (hb''.mono hb'.size), rfl⟩
  ·rintro vals w' hvl ⟨hb', hC⟩
   match vals, hvl with
   | [v11, v10], _ =>
    simp only [] at hC
    subst hC
    refine qk_thn ?_
    refine wc_no rfl rfl ?_
    repeat (with_reducible first|apply wc_region|apply qk_thn|apply wc_skip|apply qk_in)
    refine wl_add rfl rfl rfl (r := ((i + 1 : Nat) : Int)) (by rw [IntKind.wrap_i64]; omega) ?_
    repeat first|(with_reducible apply wl_nil)|((with_reducible apply ws);exact rfl;exact rfl)
    exact qk_round (i + 1) ⟨rfl, rfl, rfl, rfl, trivial⟩ ⟨by omega, hw34.trans (hb'.mono (by omega))⟩ (by omega)
 ·refine wc_no rfl (by simpa using hlt) ?_
  repeat first|(with_reducible first|apply wc_seq|apply wc_region|apply qk_thn|apply wc_exit|apply qk_thn_exit|apply qk_in_exit|apply qk_round_exit)|((with_reducible apply ws);exact rfl;exact rfl)
  have hba4 := hba3.below hw34 (by omega)
  have hb4 := hb3.below hw34 (by omega)
  refine wl_loadB rfl to_tags rfl hba4 rfl ?_
  repeat first|(with_reducible first|apply wl_nil|apply qk_thn|apply wc_block)|((with_reducible apply ws);exact rfl;exact rfl)
  refine wc_loop (α := Nat) (fun i => [(67, .int .i64 (i : Int)), (66, .int .i64 (t.u.length : Int)), (2, .pointer (some ⟨w.heap.size, 0, none⟩)), (3, .pointer (some ⟨w1.heap.size, 0, none⟩))]) (fun i w' => i ≤ t.u.length ∧ Below w4.heap.size w4 w') (fun i => t.u.length - i) 0 ⟨rfl, rfl, rfl, rfl, trivial⟩ ⟨Nat.zero_le _, Below.refl _ _⟩ ?_
  rintro j w5 ⟨hj, hw45⟩
  have hw5 := hw4.trans (hw45.mono hw4.size)
  have hz5 := hw45.size
  repeat first|(with_reducible first|apply wc_seq|apply wc_region|apply wl_nil|apply qk_thn)|((with_reducible apply ws);exact rfl;exact rfl)
  by_cases hjt : j < t.u.length
  ·refine wc_yes rfl (by simpa using hjt) ?_
   obtain ⟨b, off, c', cs, hv, _, hcs, hcl, hr⟩ := (hu.below (hw5.mono hB) (Nat.le_refl _)).get (sz := 2) (i := j) (by intro d hd; obtain ⟨x, _, rfl⟩ := List.mem_map.1 hd; exact tagD_width x) (by simpa using hjt)
   simp only [Value.slice.injEq, List.length_map] at hv
   obtain ⟨rfl, _, rfl⟩ := hv
   simp only [List.getElem_map] at hr
   obtain ⟨b', off', c'', cs', hv', _, hcs', hcl', hr'⟩ := (hu'.below (hw5.mono hB) (Nat.le_refl _)).get (sz := 2) (i := j) (by intro d hd; obtain ⟨x, _, rfl⟩ := List.mem_map.1 hd; exact tagD_width x) (by simpa using hjt)
   simp only [Value.slice.injEq, List.length_map] at hv'
   obtain ⟨rfl, _, rfl⟩ := hv'
   simp only [List.getElem_map] at hr'
   obtain ⟨qv, rfl, hqv⟩ := tag_cells hr
   obtain ⟨qv', rfl, hqv'⟩ := tag_cells hr'
   have hkl := hut _ (List.getElem_mem hjt)
   repeat first|(with_reducible first|apply wc_seq|apply wc_region|apply wl_nil|apply qk_thn|apply wc_block|apply wc_skip)|((with_reducible apply ws);exact rfl;exact rfl)
   refine wc_par [(0, .pointer (some ⟨w.heap.size, 0 + 4, none⟩)), (1, .slice (some ⟨b, off, none⟩) t.u.length uc), (2, .int .i64 (j : Int)), (3, .pointer (some ⟨b, off + j * 2, none⟩)), (4, .pointer (some ⟨b, off + j * 2 + 0, none⟩)), (5, .int .u32 (t.u[j].1 : Nat)), (6, .pointer (some ⟨w1.heap.size, 0 + 4, none⟩)), (7, .slice (some ⟨b', off', none⟩) t.u.length uc'), (8, .int .i64 (j : Int)), (9, .pointer (some ⟨b', off' + j * 2, none⟩)), (10, .pointer (some ⟨b', off' + j * 2 + 0, none⟩)), (11, .int .u32 (t.u[j].1 : Nat)), (12, .bool false), (13, .bool false),
     (14, .pointer (some ⟨w.heap.size, 0 + 4, none⟩)), (15, .slice (some ⟨b, off, none⟩) t.u.length uc), (16, .int .i64 (j : Int)), (17, .pointer (some ⟨b, off + j * 2, none⟩)), (18, .pointer (some ⟨b, off + j * 2 + 1, none⟩)), (19, qv), (20, .pointer (some ⟨w1.heap.size, 0 + 4, none⟩)), (21, .slice (some ⟨b', off', none⟩) t.u.length uc'), (22, .int .i64 (j : Int)), (23, .pointer (some ⟨b', off' + j * 2, none⟩)), (24, .pointer (some ⟨b', off' + j * 2 + 1, none⟩)), (25, qv')] [28, 27, 26]
    (fun vals w' => Below w5.heap.size w5 w' ∧ match vals with
     | [] => True
     | [v] => v = .bool true
     | v :: _ => v = .bool false)
    mixed rfl rfl rfl rfl rfl (by show ([0,1,2,3,4,5,6,7,8,9,10,11,12,13,14,15,16,17,18,19,20,21,22,23,24,25] : List Nat).Nodup; decide) rfl rfl (by decide) rfl rfl rfl rfl ⟨(Below.refl _ w5).drew, trivial⟩ ?_ ⟨?_, ?_, ?_, trivial⟩ ?_
   ·intro p hp vals w' hC a k
    have hw36 := hw45.trans (hC.1.mono (by omega))
    have hbA := hba4.below hw36 (by omega)
    have hbB := hb4.below hw36 (by omega)
    have hcA := CellsAt.of_block hcs (hC.1.block b (CellsAt.lt hcs))
    have hcB := CellsAt.of_block hcs' (hC.1.block b' (CellsAt.lt hcs'))
    simp only [List.mem_cons, List.not_mem_nil, or_false] at hp
    rcases hp with rfl | rfl | rfl | rfl | rfl | rfl | rfl | rfl | rfl | rfl | rfl | rfl | rfl | rfl | rfl | rfl | rfl | rfl | rfl | rfl | rfl | rfl | rfl | rfl | rfl | rfl
    ·exact gv rfl rfl (rn_fieldAddr k rfl fo_tree4)
    ·exact gv rfl rfl (rn_load k rfl to_tags (hbA.cell0 (i := 4) rfl))
    ·exact gv rfl rfl (rn_move k rfl)
    ·exact gv rfl rfl (rn_indexAddr k rfl rfl es_tags hjt)
    ·exact gv rfl rfl (rn_fieldAddr k rfl fo_tag0)
    ·exact gv rfl rfl (rn_load k rfl to_u32 (hcA.cell (i := 0) rfl))
    ·exact gv rfl rfl (rn_fieldAddr k rfl fo_tree4)
    ·exact gv rfl rfl (rn_load k rfl to_tags (hbB.cell0 (i := 4) rfl))
    ·exact gv rfl rfl (rn_move k rfl)
    ·exact gv rfl rfl (rn_indexAddr k rfl rfl es_tags hjt)
    ·exact gv rfl rfl (rn_fieldAddr k rfl fo_tag0)
    ·exact gv rfl rfl (rn_load k rfl to_u32 (hcB.cell (i := 0) rfl))
    ·exact gv rfl rfl ((rn_neq k rfl rfl).trans (by rw [bne_self_eq_false]))
    ·exact gv rfl rfl (rn_move k rfl)
    ·exact gv_yes rfl rfl rfl k rfl rfl (rn_fieldAddr k rfl fo_tree4)
    ·exact gv_yes rfl rfl rfl k rfl rfl (rn_load k rfl to_tags (hbA.cell0 (i := 4) rfl))
    ·exact gv_yes rfl rfl rfl k rfl rfl (rn_move k rfl)
    ·exact gv_yes rfl rfl rfl k rfl rfl (rn_indexAddr k rfl rfl es_tags hjt)
    ·exact gv_yes rfl rfl rfl k rfl rfl (rn_fieldAddr k rfl fo_tag1)
    ·exact gv_yes rfl rfl rfl k rfl rfl (rn_load k rfl to_bytes (hcA.cell (i := 1) rfl))
    ·exact gv_yes rfl rfl rfl k rfl rfl (rn_fieldAddr k rfl fo_tree4)
    ·exact gv_yes rfl rfl rfl k rfl rfl (rn_load k rfl to_tags (hbB.cell0 (i := 4) rfl))
    ·exact gv_yes rfl rfl rfl k rfl rfl (rn_move k rfl)
    ·exact gv_yes rfl rfl rfl k rfl rfl (rn_indexAddr k rfl rfl es_tags hjt)
    ·exact gv_yes rfl rfl rfl k rfl rfl (rn_fieldAddr k rfl fo_tag1)
    ·exact gv_yes rfl rfl rfl k rfl rfl (rn_load k rfl to_bytes (hcB.cell (i := 1) rfl))
   ·rintro vals w' hvl ⟨hb', hC⟩ a k
    match vals, hvl with
    | [v27, v26], _ =>
     simp only [] at hC
     subst hC
     exact ⟨_, rfl, does_pick (b := false) (v := .bool false) k rfl rfl ⟨hb', rfl⟩⟩
   ·rintro vals w' hvl ⟨hb', hC⟩ a k
    match vals, hvl with
    | [v26], _ =>
     simp only [] at hC
     subst hC
     exact ⟨_, rfl, does_not k rfl ⟨hb', rfl⟩⟩
   ·rintro vals w' hvl ⟨hb', hC⟩ a k
    match vals, hvl with
    | [], _ =>
     refine ⟨_, rfl, does_call k rfl (by kernel_rfl) ((fn_same _ _ t.u[j].2 t.u[j].2 w' ((hqv.below (hb'.mono (by have := hw5.size; omega)) (Nat.le_refl _)).bytes) ((hqv'.below (hb'.mono (by have := hw5.size; omega)) (Nat.le_refl _)).bytes) hkl hkl).mono ?_)⟩
     rintro e w'' ⟨v, rfl, hb'', rfl⟩
     exact ⟨_, rfl, hb'.trans (hb''.mono hb'.size), by rw [beq_self_eq_true]⟩
   ·rintro vals w' hvl ⟨hb', hC⟩
    match vals, hvl with
    | [v28, v27, v26], _ =>
     simp only [] at hC
     subst hC
     refine qk_thn ?_
     refine wc_no rfl rfl ?_
     repeat (with_reducible first|apply wc_region|apply qk_thn|apply wc_skip|apply qk_in)
     refine wl_add rfl rfl rfl (r := ((j + 1 : Nat) : Int)) (by rw [IntKind.wrap_i64]; omega) ?_
     repeat first|(with_reducible apply wl_nil)|((with_reducible apply ws);exact rfl;exact rfl)
     exact qk_round (j + 1) ⟨rfl, rfl, rfl, rfl, trivial⟩ ⟨by omega, hw45.trans (hb'.mono (by omega))⟩ (by omega)
  ·refine wc_no rfl (by simpa using hjt) ?_
   repeat first|(with_reducible first|apply wc_seq|apply wc_region|apply wl_nil|apply qk_thn|apply wc_ret|apply wc_exit|apply qk_thn_exit|apply qk_in_exit|apply qk_round_exit)|((with_reducible apply ws);exact rfl;exact rfl)
   exact qk_ret1 rfl rfl ⟨_, rfl, hw5, rfl⟩
end
mutual
theorem sam_ok : ∀ t : Tree, SamOK t
 | .mk _ _ _ l _ => sam_of _ (sams_ok l)
theorem sams_ok : ∀ l : List Tree, ∀ x ∈ l, SamOK x
 | [], x, hx => by cases hx
 | y :: l, x, hx => by
  have hy := sam_ok y
  have hl := sams_ok l
  rcases List.mem_cons.1 hx with h0 | h1
  ·rw [h0]; exact hy
  ·exact hl x h1
end
end Go.Proofs.YtoncnffdlejbaaaDoor.Sam

namespace Go.Proofs.YtoncnffdlejbaaaDoor
open Go Go.RowKit
section
variable {P : Program} {ops : Array Oper} {Q : Exit → Act → World → Prop} {N : Nat} {rest : List Oper} {L : Sl} {w : World} {d : Nat} {ty : TypeId} {pos : String} {aft : Array Edge} {a : Act} {g : Option (Nat × Bool)}
theorem wl_ifNeErr {x : Operand} {t u s : TypeId} {v : Value} (hx : ev L x = some (.iface s v)) (ht : (match P.underlying t with | some (.interface _) => true | _ => false) = true) (hd : Nat.blt d N = true) (h : WL rest P ops Q N ((d, .bool true) :: L) w) :
  WL (⟨some d, .binOp .neq t x (.const .nilIface) u, ty, pos, aft, none⟩ :: rest) P ops Q N L w := by
 intro a k
 split at ht
 ·rename_i ms hu
  refine st_of (o := ⟨some d, .binOp .neq t x (.const .nilIface) u, ty, pos, aft, none⟩) (v := .bool true) (w' := w) rfl ?_ (h _ (k.put _ hd))
  simp only [execOp, k.eval hx, eval_const]
  have h : ∀ d : Nat, (Op.equalIn (d + 1) t (.iface s v) .nilIface).run P w = .ok false w := fun d => by
   simp [Op.equalIn, run_underlying hu]
  simp only [eqGuard, binOp]
  simp [Op.equal, Op.maxDepth, h 9999]
 ·cases ht
theorem rn_eqlB {x y : Operand} {t u : TypeId} {b c : Bool} (k : Kn N a L) (hx : ev L x = some (.bool b)) (hy : ev L y = some (.bool c)) (ht : P.underlying t = some .bool) : (execOp a.eval ⟨some d, .binOp .eql t x y u, ty, pos, aft, g⟩).run P w = .ok (.value (.bool (b == c))) w := by
 simp only [execOp, k.eval hx, k.eval hy]
 have h : ∀ d : Nat, (Op.equalIn (d + 1) t (.bool b) (.bool c)).run P w = .ok (b == c) w := fun d => by
  simp [Op.equalIn, run_underlying ht]
 simp only [eqGuard, binOp]
 simp [Op.equal, Op.maxDepth, h 9999]
end
end Go.Proofs.YtoncnffdlejbaaaDoor

namespace Go.Proofs.YtoncnffdlejbaaaDoor
open Go Go.RowKit
def ldF4 (a b c d : List D) (s : List UInt8) : Option (List D × List UInt8) := (tagsP s).bind fun t => some (a ++ (b ++ (c ++ (d ++ [tagsK t.1]))), t.2)
def ldF3 (a b c : List D) (s : List UInt8) : Option (List D × List UInt8) := (rdP .i32 s).bind fun d => ldF4 a b c d.1 d.2
def ldF2 (a b : List D) (s : List UInt8) : Option (List D × List UInt8) := (rdP .cstr s).bind fun c => ldF3 a b c.1 c.2
def ldF1 (a : List D) (s : List UInt8) : Option (List D × List UInt8) := (rdP .i32 s).bind fun b => ldF2 a b.1 b.2
def rdLead (s : List UInt8) : Option (List D × List UInt8) := (rdP .i32 s).bind fun a => ldF1 a.1 a.2
def ntR : Nat → List (Nat × List UInt8) → List D → List UInt8 → Option (List D × List (Nat × List UInt8))
 | 0, u, ld, _ => some (ld, u)
 | n + 1, u, ld, s => (uvarP s).bind fun k => (uvarP k.2).bind fun y => (takeN y.1 y.2).bind fun z => if k.1 = 0 then (rdLead z.1).bind fun e => ntR n u e.1 z.2 else ntR n (setTag k.1 z.1 u) ld z.2
def uF3 (ver : Value) (a b : List D) (n : Nat) (u : List (Nat × List UInt8)) (ld : List D) (s : List UInt8) : Option (List D) := (ntR n u ld s).map fun r => .lit ver :: (a ++ (b ++ (r.1 ++ [tagsK r.2])))
def uK (ver : Value) (a b : List D) (n : Nat) (u : List (Nat × List UInt8)) (ld : List D) (key : Nat) (z s : List UInt8) : Option (List D) := if key = 0 then (rdLead z).bind fun e => uF3 ver a b n u e.1 s else uF3 ver a b n (setTag key z u) ld s
def uH (ver : Value) (a b : List D) (n : Nat) (u : List (Nat × List UInt8)) (ld : List D) (key l : Nat) (s : List UInt8) : Option (List D) := (takeN l s).bind fun z => uK ver a b n u ld key z.1 z.2
def uG (ver : Value) (a b : List D) (n : Nat) (u : List (Nat × List UInt8)) (ld : List D) (key : Nat) (s : List UInt8) : Option (List D) := (uvarP s).bind fun y => uH ver a b n u ld key y.1 y.2
def uF2 (ver : Value) (ld0 a b : List D) (s : List UInt8) : Option (List D) := (uvarP s).bind fun c => uF3 ver a b c.1 [] ld0 c.2
def uF1 (ver : Value) (ld0 a : List D) (s : List UInt8) : Option (List D) := (rdP .i16 s).bind fun b => uF2 ver ld0 a b.1 b.2
def rdU (ver : Value) (ld0 : List D) (s : List UInt8) : Option (List D) := (rdP .i32 s).bind fun a => uF1 ver ld0 a.1 a.2
theorem uF3_succ (ver : Value) (a b : List D) (n : Nat) (u : List (Nat × List UInt8)) (ld : List D) (s : List UInt8) : uF3 ver a b (n + 1) u ld s = (uvarP s).bind fun k => uG ver a b n u ld k.1 k.2 := by
 simp only [uF3, ntR]
 cases uvarP s with
 | none => rfl
 | some k =>
  simp only [Option.bind_some, uG]
  cases uvarP k.2 with
  | none => rfl
  | some y =>
   simp only [Option.bind_some, uH]
   cases takeN y.1 y.2 with
   | none => rfl
   | some z =>
    simp only [Option.bind_some, uK]
    split
    ·cases rdLead z.1 with
     | none => rfl
     | some e => rfl
    ·rfl
theorem i32_typed {M : Nat} {s : List UInt8} {x : List D × List UInt8} (h : rdP .i32 s = some x) : Typeds M [.n .i32] x.1 ∧ x.2.length ≤ s.length := by
 simp only [rdP, Option.map_eq_some_iff] at h
 obtain ⟨y, hy, rfl⟩ := h
 exact ⟨by simp [Typeds, Typed], intP_len hy⟩
theorem i16_typed {M : Nat} {s : List UInt8} {x : List D × List UInt8} (h : rdP .i16 s = some x) : Typeds M [.n .i16] x.1 ∧ x.2.length ≤ s.length := by
 simp only [rdP, Option.map_eq_some_iff] at h
 obtain ⟨y, hy, rfl⟩ := h
 exact ⟨by simp [Typeds, Typed], intP_len hy⟩
theorem cstr_typed {M : Nat} {s : List UInt8} {x : List D × List UInt8} (h : rdP .cstr s = some x) (hm : s.length ≤ M) : Typeds M [.s] x.1 ∧ x.2.length ≤ s.length := by
 simp only [rdP, Option.bind_eq_some_iff, Option.map_eq_some_iff] at h
 obtain ⟨y, hy, z, hz, rfl⟩ := h
 have := (uvarP_dec hy).1
 obtain ⟨k1, k2⟩ := spanP_len hz
 refine ⟨?_, by simp only []; omega⟩
 simp only [Typeds, Typed]
 exact ⟨_, _, rfl, ⟨_, rfl, by omega⟩, rfl⟩
def ctLead : List CT := [.n .i32, .n .i32, .s, .n .i32, .tg]
theorem tg_typed {M : Nat} {u : List (Nat × List UInt8)} (h1 : Rising u) (h2 : ∀ kv ∈ u, kv.1 < 4294967296 ∧ kv.2.length ≤ M) (h3 : u.length ≤ M) : Typeds M [.tg] [tagsK u] := by
 simp only [Typeds, Typed]
 exact ⟨_, _, rfl, .inr ⟨u, rfl, h1, h2, h3⟩, rfl⟩
theorem lead_typed {M : Nat} {s : List UInt8} {x : List D × List UInt8} (h : rdLead s = some x) (hm : s.length ≤ M) : Typeds M ctLead x.1 := by
 simp only [rdLead, ldF1, ldF2, ldF3, ldF4, Option.bind_eq_some_iff, Option.some.injEq] at h
 obtain ⟨a, ha, b, hb, c, hc, d, hd, t, ht, rfl⟩ := h
 obtain ⟨a1, a2⟩ := i32_typed (M := M) ha
 obtain ⟨b1, b2⟩ := i32_typed (M := M) hb
 obtain ⟨c1, c2⟩ := cstr_typed (M := M) hc (by omega)
 obtain ⟨d1, d2⟩ := i32_typed (M := M) hd
 obtain ⟨t1, t2, t3, _⟩ := tagsP_typed (M := M) ht (by omega)
 exact Typeds.join (c1 := [.n .i32]) a1 (Typeds.join (c1 := [.n .i32]) b1 (Typeds.join (c1 := [.s]) c1 (Typeds.join (c1 := [.n .i32]) d1 (tg_typed t1 t2 t3))))
theorem nt_typed {M : Nat} : ∀ (n : Nat) (u : List (Nat × List UInt8)) (ld : List D) (s : List UInt8) (x : List D × List (Nat × List UInt8)), ntR n u ld s = some x → Rising u → (∀ kv ∈ u, kv.1 < 4294967296 ∧ kv.2.length ≤ M) → u.length + s.length ≤ M → Typeds M ctLead ld →
  Typeds M ctLead x.1 ∧ Typeds M [.tg] [tagsK x.2]
 | 0, u, ld, s, x, h, hr, hk, hm, hl => by
  simp only [ntR, Option.some.injEq] at h
  subst h
  exact ⟨hl, tg_typed hr hk (by simp only []; omega)⟩
 | n + 1, u, ld, s, x, h, hr, hk, hm, hl => by
  simp only [ntR, Option.bind_eq_some_iff] at h
  obtain ⟨a, ha, b, hb, z, hz, h⟩ := h
  obtain ⟨a1, a2⟩ := uvarP_dec ha
  obtain ⟨b1, _⟩ := uvarP_dec hb
  obtain ⟨z1, z2, _⟩ := takeN_len hz
  split at h
  ·simp only [Option.bind_eq_some_iff] at h
   obtain ⟨e, he, h⟩ := h
   exact nt_typed n u e.1 z.2 x h hr hk (by omega) (lead_typed he (by omega))
  ·have hl' := setTag_length (k := a.1) (v := z.1) hr
   have hl2 : (setTag a.1 z.1 u).length ≤ u.length + 1 := by rw [hl']; split <;> omega
   exact nt_typed n _ ld z.2 x h (setTag_rising hr) (fun kv hkv => by
    rcases (mem_setTag hr).1 hkv with rfl | ⟨h1, _⟩
    ·exact ⟨a2, by simp only []; omega⟩
    ·exact hk kv h1) (by omega) hl
theorem rdU_typed {M : Nat} {v : Int} {ld0 ds : List D} {s : List UInt8} (h : rdU (.int .i16 v) ld0 s = some ds) (hm : s.length ≤ M) (hl : Typeds M ctLead ld0) : Typeds M (.n .i16 :: .n .i32 :: .n .i16 :: (ctLead ++ [.tg])) ds := by
 simp only [rdU, uF1, uF2, uF3, Option.bind_eq_some_iff, Option.map_eq_some_iff] at h
 obtain ⟨a, ha, b, hb, c, hc, r, hr, rfl⟩ := h
 obtain ⟨a1, a2⟩ := i32_typed (M := M) ha
 obtain ⟨b1, b2⟩ := i16_typed (M := M) hb
 obtain ⟨c1, _⟩ := uvarP_dec hc
 obtain ⟨k1, k2⟩ := nt_typed (M := M) _ _ _ _ r hr (by simp [Rising]) (by simp) (by simp; omega) hl
 have h0 : Typeds M [.n .i16] [.lit (.int .i16 v)] := by simp [Typeds, Typed]
 exact Typeds.join (c1 := [.n .i16]) h0 (Typeds.join (c1 := [.n .i32]) a1 (Typeds.join (c1 := [.n .i16]) b1 (Typeds.join k1 k2)))
theorem rel_step {β : Type} {p : Rp} {st st' : Option (List UInt8)} {nd : List D} (F : List D → List UInt8 → Option β) (h : RdRel p st nd st') : (st.bind fun s => (rdP p s).bind fun a => F a.1 a.2) = st'.bind fun s => F nd s := by
 have h := h.2.2
 cases st with
 | none => simp only at h; subst h; rfl
 | some s =>
  simp only [Option.bind_some] at h ⊢
  cases hp : rdP p s with
  | none => rw [hp] at h; simp only at h; subst h; rfl
  | some x => rw [hp] at h; obtain ⟨rfl, rfl⟩ := h; rfl
theorem tag_step {β : Type} {st st' : Option (List UInt8)} {u : List (Nat × List UInt8)} (F : List (Nat × List UInt8) → List UInt8 → Option β) (h : TagRel st u st') : (st.bind fun s => (tagsP s).bind fun a => F a.1 a.2) = st'.bind fun s => F u s := by
 unfold TagRel at h
 cases st with
 | none => simp only at h; subst h; rfl
 | some s =>
  simp only [Option.bind_some] at h ⊢
  cases hp : tagsP s with
  | none => rw [hp] at h; simp only at h; subst h; rfl
  | some x => rw [hp] at h; obtain ⟨rfl, rfl⟩ := h; rfl
end Go.Proofs.YtoncnffdlejbaaaDoor

namespace Go.Proofs.YtoncnffdlejbaaaDoor.Urv
open Go Go.RowKit
set_option maxRecDepth 100000
def tbl : Tbl := ⟨[(98, 0, 0), (98, 1, 1), (98, 2, 2), (98, 3, 3), (98, 4, 8), (96, 0, 0), (96, 1, 1), (96, 2, 2), (96, 3, 3), (96, 4, 4)], []⟩
theorem tbl_ok : tbl.ok Tryd.prog = true := by kernel_rfl
theorem ws {ops : Array Oper} {Q : Exit → Act → World → Prop} {N : Nat} {rest : List Oper} {L : Sl} {w : World} {d : Nat} {ty : TypeId} {pos : String} {aft : Array Edge} {o : Op} {v : Value}
  (hs : stepOp tbl L o = some v) (hd : Nat.blt d N = true) (h : WL rest Tryd.prog ops Q N ((d, v) :: L) w) : WL (⟨some d, o, ty, pos, aft, none⟩ :: rest) Tryd.prog ops Q N L w := wl_step tbl tbl_ok hs hd h
theorem to_i16 : tyOne Tryd.prog 38 = true := by kernel_rfl
theorem to_i32 : tyOne Tryd.prog 21 = true := by kernel_rfl
theorem to_str : tyOne Tryd.prog 9 = true := by kernel_rfl
theorem tz_rdr : (Tryd.prog.info? 104).map (·.size) = some 2 := by kernel_rfl
theorem tz_tags : (Tryd.prog.info? 67).map (·.size) = some 1 := by kernel_rfl
theorem rty : Rdk.kru.rty = 104 := by kernel_rfl
theorem zv_rdr (w : World) : (zeroValue 104).run Tryd.prog w = .ok (.agg #[.slice none 0 0, .bool false]) w := by have := Rdk.kru_ty.zero w; rw [rty] at this; exact this
theorem bl_rdr (a : Option Addr) (n c : Nat) : Tryd.prog.built 104 [(0, .slice a n c)] = some ([.slice a n c, .bool false] : List Value).toArray := by have := Rdk.kru_ty.built a n c; rw [rty] at this; exact this
theorem cell_one {v : Value} (h : (v.cells.toList.all fun v => v.oneCell') = true) (h1 : v.cells = #[v]) : v.oneCell' = true := by
 rw [h1] at h; simpa using h
theorem uv_step {β : Type} {st st' : Option (List UInt8)} {u : Nat} (F : Nat → List UInt8 → Option β) (h : Rdk.UvRel st u st') : (st.bind fun s => (uvarP s).bind fun a => F a.1 a.2) = st'.bind fun s => F u s := by
 have h := h.2
 cases st with
 | none => simp only at h; subst h; rfl
 | some s =>
  simp only [Option.bind_some] at h ⊢
  cases hp : uvarP s with
  | none => rw [hp] at h; simp only at h; subst h; rfl
  | some x => rw [hp] at h; obtain ⟨rfl, rfl⟩ := h; rfl
theorem span_step {β : Type} {st st' : Option (List UInt8)} {l : Nat} {bs : List UInt8} (F : List UInt8 → List UInt8 → Option β) (h : Rdk.SpanRel (l : Int) st bs st') : (st.bind fun s => (takeN l s).bind fun a => F a.1 a.2) = st'.bind fun s => F bs s := by
 cases st with
 | none => have h' : st' = none := h; subst h'; rfl
 | some s =>
  simp only [Rdk.SpanRel, spanP] at h
  rw [if_neg (by omega), Int.toNat_natCast] at h
  simp only [Option.bind_some]
  cases hp : takeN l s with
  | none => rw [hp] at h; simp only at h; subst h; rfl
  | some x => rw [hp] at h; obtain ⟨rfl, rfl⟩ := h; rfl
theorem fn_setAt (w : World) (tb off sb lo key : Nat) (val m : Value) (u : List (Nat × List UInt8)) (e : TypeId) (s : List UInt8) (cs : List Value) (hb : Box w tb cs e) (hm : cs[off]? = some m) (ht : Rdk.TagsAt w sb lo m u) (hv : SrcV w sb val s) (h1 : tb < lo) (h2 : sb < lo) (h3 : lo ≤ w.heap.size) (h4 : tb ≠ sb) :
  Calls Tryd.prog 109 #[.pointer (some ⟨tb, off, none⟩), .int .u32 key, val] w fun en w' => en = .returned (.tuple #[]) ∧ ∃ m', Box w' tb (cs.set off m') e ∧ Rdk.TagsAt w' sb lo m' (setTag key s u) ∧ Chg (fun j => j = tb ∨ m = .map (some j) ∨ w.heap.size ≤ j) w w' ∧ (m' = m ∨ ∃ r, m' = .map (some r) ∧ w.heap.size ≤ r) := by
 have hoff : off < cs.length := (List.getElem?_eq_some_iff.1 hm).1
 refine enter Tryd.func109 rfl Tryd.ntmps109 rfl ?_
 rcases ht with ⟨rfl, rfl⟩ | ⟨r, rfl, hr, htm⟩
 ·refine wc_seq (wc_seq (wc_region ?_))
  refine Rdk.wt rfl rfl ?_
  refine Rdk.wt rfl rfl ?_
  refine Rdk.wt rfl rfl ?_
  refine wl_loadB rfl Rdk.to_map rfl hb hm ?_
  refine Rdk.wl_mapNil rfl (by kernel_rfl) rfl ?_
  refine wl_nil (qk_thn (wc_yes rfl rfl (wc_region ?_)))
  refine Rdk.wt rfl rfl ?_
  refine Rdk.wl_makeMap rfl ?_
  have hal : Chg (fun _ => False) w (w.alloc (.map #[] 0)) := chg_alloc w _ _
  have hnew := tagMap_new w sb
  have hb1 := hb.chg hal id
  have hs1 : (w.alloc (.map #[] 0)).heap.size = w.heap.size + 1 := by simp
  have hv1 := hv.chg hal id
  generalize w.alloc (.map #[] 0) = w1 at *
  refine Rdk.wt rfl rfl ?_
  refine Rdk.wt rfl rfl ?_
  refine wl_storeB rfl rfl Rdk.to_map rfl hb1 hm (fun w2 hb2 hg2 hs2 => ?_)
  have hc2 := Chg.grown hg2
  have hm2 : (cs.set off (.map (some w.heap.size)))[off]? = some (.map (some w.heap.size)) := by simp [hoff]
  obtain ⟨w3, hrun, hc3, _, ht3⟩ := run_tagSet Rdk.um Rdk.uk (hnew.keep hc2 (fun e => by have : w.heap.size = tb := e; omega) (fun e => h4 e.symm) (by omega)) (by omega) (by omega) key (hv1.chg hc2 (fun e => h4 e.symm))
  refine wl_nil (qk_thn (wc_region ?_))
  refine Rdk.wt rfl rfl ?_
  refine Rdk.wt rfl rfl ?_
  refine Rdk.wt rfl rfl ?_
  refine wl_loadB rfl Rdk.to_map rfl hb2 hm2 ?_
  refine Rdk.wt rfl rfl ?_
  refine Rdk.wt rfl rfl ?_
  refine Rdk.wl_mapUpd rfl rfl rfl hrun ?_
  refine wl_nil (qk_end0 rfl ⟨rfl, .map (some w.heap.size), hb2.chg hc3 (by show tb ≠ w.heap.size; omega), .inr ⟨_, rfl, h3, ht3⟩, ?_, .inr ⟨_, rfl, Nat.le_refl _⟩⟩)
  exact (hal.wide (fun _ h => h.elim)).trans ((hc2.wide (fun j hj => .inl hj)).trans (hc3.wide (fun j hj => .inr (.inr (by have : j = w.heap.size := hj; omega)))))
 ·obtain ⟨w3, hrun, hc3, _, ht3⟩ := run_tagSet Rdk.um Rdk.uk htm (by omega) (by omega) key hv
  refine wc_seq (wc_seq (wc_region ?_))
  refine Rdk.wt rfl rfl ?_
  refine Rdk.wt rfl rfl ?_
  refine Rdk.wt rfl rfl ?_
  refine wl_loadB rfl Rdk.to_map rfl hb hm ?_
  refine Rdk.wl_mapNil rfl (by kernel_rfl) rfl ?_
  refine wl_nil (qk_thn (wc_no rfl rfl (wc_skip (qk_thn (wc_region ?_)))))
  refine Rdk.wt rfl rfl ?_
  refine Rdk.wt rfl rfl ?_
  refine Rdk.wt rfl rfl ?_
  refine wl_loadB rfl Rdk.to_map rfl hb hm ?_
  refine Rdk.wt rfl rfl ?_
  refine Rdk.wt rfl rfl ?_
  refine Rdk.wl_mapUpd rfl rfl rfl hrun ?_
  refine wl_nil (qk_end0 rfl ⟨rfl, .map (some r), ?_, .inr ⟨r, rfl, hr, ht3⟩, hc3.wide (fun j hj => .inr (.inl (by have : j = r := hj; rw [this]))), .inl rfl⟩)
  have : cs.set off (.map (some r)) = cs := by
   have h5 := (List.getElem?_eq_some_iff.1 hm).2
   rw [← h5]; exact List.set_getElem_self hoff
  rw [this]
  exact hb.chg hc3 (by show tb ≠ r; omega)
def Qm (sb lo : Nat) (w : World) (m : Value) (q : Nat) : Prop := Dk sb lo w q ∧ m ≠ .map (some q)
theorem qm_up {S : Nat → Prop} {sb lo : Nat} {w w' : World} {m : Value} {ds : List D} {cs : List Value} (h : Reps (Qm sb lo w m) w ds cs) (hc : Chg S w w') (hs : ∀ k, S k → (k < lo ∧ k ≠ sb) ∨ w.heap.size ≤ k) : Reps (Qm sb lo w' m) w' ds cs :=
 h.up (fun r hr => ⟨⟨hr.1.1, Nat.lt_of_lt_of_le hr.1.2 hc.size⟩, hr.2⟩) (fun r hr => hc.block r hr.1.2 (fun e => by
  have h3 := hr.1.2
  rcases hs r e with ⟨h1, h2⟩ | h1
  ·rcases hr.1.1 with h | h
   ·exact h2 h
   ·omega
  ·omega))
theorem tagsAt_lt {sb lo : Nat} {w : World} {m : Value} {u : List (Nat × List UInt8)} {r : Nat} (h : Rdk.TagsAt w sb lo m u) (hm : m = .map (some r)) : lo ≤ r ∧ r < w.heap.size := by
 rcases h with ⟨rfl, _⟩ | ⟨r', rfl, hr, ⟨⟨es, clock, hb, _⟩, _⟩⟩
 ·cases hm
 ·cases hm
  exact ⟨hr, (Array.getElem?_eq_some_iff.1 hb).1⟩
theorem fo_tags : fieldOff Tryd.prog 98 4 = some 8 := by kernel_rfl
def C0 (v : Int) : List Value := [.int .i16 v, .int .i32 0, .int .i16 0, .int .i32 (-1), .int .i32 (-1), strV [], .int .i32 0, .map none, .map none]
def ld0 : List D := [.lit (.int .i32 (-1)), .lit (.int .i32 (-1)), .lit (strV []), .lit (.int .i32 0), .lit (.map none)]
theorem df_all (v : Int) : (defF Tryd.prog 71).bind (fun l => setAll l (C0 v)) = some (C0 v) := by kernel_rfl
theorem df_lead (x3 x4 x5 x6 x7 : Value) : (defF Tryd.prog 111).bind (fun l => setAll l [x3, x4, x5, x6, x7]) = some [.int .i32 (-1), .int .i32 (-1), x5, x6, x7] := by kernel_rfl
theorem ld0_typed (M : Nat) : Typeds M ctLead ld0 := by
 simp only [ctLead, ld0, Typeds, Typed]
 exact ⟨_, _, rfl, ⟨_, rfl⟩, _, _, rfl, ⟨_, rfl⟩, _, _, rfl, ⟨[], rfl, Nat.zero_le _⟩, _, _, rfl, ⟨_, rfl⟩, _, _, rfl, .inl rfl, rfl⟩
def Inv (v : Int) (xs : List UInt8) (w0 : World) (b rb sb lo : Nat) (j : Nat) (w : World) : Prop := ∃ (st : Option (List UInt8)) (a bb : List D) (u : List (Nat × List UInt8)) (ld : List D) (y1 y2 x3 x4 x5 x6 x7 m : Value), j < 4294967296 ∧ Chg (fun i => i = b ∨ w0.heap.size ≤ i) w0 w ∧ lo ≤ w.heap.size ∧ Rdr w rb sb st ∧ Box w b [.int .i16 v, y1, y2, x3, x4, x5, x6, x7, m] 98 ∧ Rdk.TagsAt w sb lo m u ∧
 Reps (Qm sb lo w m) w (a ++ bb) [y1, y2] ∧ Reps (Qm sb lo w m) w ld [x3, x4, x5, x6, x7] ∧ rdU (.int .i16 v) ld0 xs = st.bind fun s => uF3 (.int .i16 v) a bb j u ld s
set_option maxHeartbeats 8000000 in
theorem fn_readFromT (v : Nat) (w : World) (u0 : TypeId) (x0 sv : Value) (b sb : Nat) (xs : List UInt8) (hb : Box w b (C0 (v : Int)) 98) (hv : SrcAt w sb sv xs) (hsb : sb < w.heap.size) (hne : b ≠ sb) (hb0 : b ≠ 0)
  (hg : w.cell? ⟨1, 0, none⟩ = some (.iface u0 x0)) (hgb : 1 ≠ b) (hgl : 1 < w.heap.size) :
  isFn Tryd.prog 72 = true ∧ Calls Tryd.prog 72 #[.pointer (some ⟨b, 0, none⟩), sv, .bool false] w fun en w' => Chg (fun j => j = b ∨ w.heap.size ≤ j) w w' ∧ match rdU (.int .i16 (v : Int)) ld0 xs with
   | some ds => en = .returned .nilIface ∧ ∃ cs' lo, w.heap.size ≤ lo ∧ Box w' b cs' 98 ∧ Reps (Dk sb lo w') w' ds cs'
   | none => en = .returned (.iface u0 x0) := by
 refine ⟨by kernel_rfl, ?_⟩
 obtain ⟨aa, nn, cc, hvs⟩ : ∃ aa nn cc, sv = .slice aa nn cc := by
  rcases hv.2 with ⟨rfl, _⟩ | ⟨o, c, rfl, _⟩
  ·exact ⟨_, _, _, rfl⟩
  ·exact ⟨_, _, _, rfl⟩
 subst hvs
 have hgk : ∀ w' : World, Chg (fun j => j = b ∨ w.heap.size ≤ j) w w' → w'.cell? ⟨1, 0, none⟩ = some (.iface u0 x0) := fun w' hc => by
  have hg3 : w'.heap[1]? = w.heap[1]? := hc.block _ hgl (by rintro (h | h); exact hgb h; omega)
  simp only [World.cell?] at hg ⊢
  rw [hg3]; exact hg
 refine enter (vs := [.pointer (some ⟨b, 0, none⟩), .slice aa nn cc, .bool false]) Tryd.func72 rfl Tryd.ntmps72 rfl ?_
 repeat first|(with_reducible first|apply wc_seq|apply wc_region|apply wl_nil|apply qk_thn)|((with_reducible apply ws);exact rfl;exact rfl)
 obtain ⟨l, hl, hset⟩ := Option.bind_eq_some_iff.1 (df_all (v : Int))
 have hdef := defF_ok (w := w) hl (b := b) (pre := []) (cs := C0 (v : Int)) (post := []) (cs' := C0 (v : Int)) (e := 98) (by simpa using hb) hset
 refine wl_call rfl hdef.1 rfl (hdef.2.mono ?_)
 rintro en w1 ⟨rfl, hb1, hc1⟩
 refine ⟨_, rfl, ?_⟩
 repeat first|(with_reducible first|apply wc_seq|apply wc_region|apply wl_nil|apply qk_thn)|((with_reducible apply ws);exact rfl;exact rfl)
 refine wl_build rfl (cs := [.slice aa nn cc, .bool false]) (bl_rdr aa nn cc) rfl ?_
 refine wl_alloc zv_rdr rfl rfl (fun w2 hb2 hg2 hs2 => ?_)
 refine wl_storeBAgg (vs := [.slice aa nn cc, .bool false]) rfl rfl rfl tz_rdr rfl hb2 rfl (fun w3 hb3 hg3 hs3 => ?_)
 have hc2 : Chg (fun _ => False) w1 w2 := Chg.grown0 hg2
 have hc3 : Chg (· = w1.heap.size) w2 w3 := Chg.grown hg3
 have hsz := hc1.size
 have hsz3 := hc3.size
 have hbsz := hb.lt
 obtain ⟨rb, hrb⟩ : ∃ rb, rb = w1.heap.size := ⟨_, rfl⟩
 obtain ⟨lo, hlo⟩ : ∃ lo, lo = w1.heap.size + 1 := ⟨_, rfl⟩
 rw [← hrb] at hb3 hc3
 have cc3 : Chg (fun j => j = b ∨ j = rb) w w3 := (hc1.wide (fun j hj => .inl hj)).trans ((hc2.wide (fun j hj => hj.elim)).trans (hc3.wide (fun j hj => .inr hj)))
 have hbb : Box w3 b (C0 (v : Int)) 98 := ((by simpa using hb1 : Box w1 b (C0 (v : Int)) 98).chg hc2 id).chg hc3 (by omega)
 have hr3 : Rdr w3 rb sb (some xs) := by
  refine ⟨_, _, hb3, hv.1, ?_, fun hz => ?_⟩
  ·rcases hv.2 with h | ⟨o, c, e1, e2, e3, e4⟩
   ·exact .inl ⟨h.1, h.2.1⟩
   ·exact .inr ⟨o, c, e1, e2, e3.chg cc3 (by rintro (h | h); exact hne h.symm; omega), e4⟩
  ·rcases hv.2 with h | ⟨o, c, e1, e2, e3, e4⟩
   ·exact absurd h.2.2 hz
   ·rw [e1]; simp
 have k3 : Chg (fun j => j = b ∨ w.heap.size ≤ j) w w3 := cc3.wide (fun j hj => by rcases hj with h | h; exact .inl h; exact .inr (by omega))
 have l1 : rb < lo := by omega
 have l2 : sb < lo := by omega
 have l3 : lo ≤ w3.heap.size := by omega
 have n1 : rb ≠ sb := by omega
 have n2 : b ≠ rb := by omega
 have l4 : b < lo := by omega
 have l5 : w.heap.size ≤ rb := by omega
 rw [show (Value.pointer (some ⟨w1.heap.size, 0, none⟩)) = .pointer (some ⟨rb, 0, none⟩) by rw [hrb]]
 clear hb1 hb2 hb3 hc1 hc2 hc3 hg2 hg3 hs2 hs3 hsz hsz3 hrb hlo cc3
 repeat first|(with_reducible first|apply wc_seq|apply wc_region|apply wl_nil|apply qk_thn)|((with_reducible apply ws);exact rfl;exact rfl)
 refine wl_loadB (i := 0) rfl to_i16 rfl hbb (v := .int .i16 (v : Int)) rfl ?_
 repeat first|(with_reducible first|apply wc_seq|apply wc_region|apply wl_nil|apply qk_thn)|((with_reducible apply ws);exact rfl;exact rfl)
 refine wl_call rfl (by kernel_rfl) rfl (((Rdk.kru_ok (.iface u0 x0)).rd 78 .i32 (by kernel_rfl) (by kernel_rfl) w3 rb sb lo (some xs) hr3 l1 l2 l3 n1).mono ?_)
 rintro en w4 ⟨y1, a, st1, rfl, hc4, hr4, hrep4, hall4, hone4, hrel4⟩
 refine ⟨_, rfl, ?_⟩
 have hy1 := cell_one hall4 (hone4 rfl)
 rw [hone4 rfl] at hrep4
 have hbb4 := hbb.chg hc4 (fun e => n2 e)
 have hs4 := hc4.size
 repeat first|(with_reducible first|apply wc_region|apply wl_nil|apply qk_thn)|((with_reducible apply ws);exact rfl;exact rfl)
 refine wl_storeB (i := 1) rfl rfl to_i32 hy1 hbb4 rfl (fun w5 hb5 hg5 hs5 => ?_)
 have hc5 : Chg (· = b) w4 w5 := Chg.grown hg5
 have hr5 := hr4.chg hc5 (fun e => n2 e.symm) (fun e => hne e.symm)
 have hrep5 := Dk.up hrep4 hc5 (by rintro k rfl; exact ⟨l4, hne⟩)
 have hz5 := hc5.size
 repeat (with_reducible first|apply wc_seq|apply wc_region|apply wl_nil|apply qk_thn)
 refine wl_call rfl (by kernel_rfl) rfl (((Rdk.kru_ok (.iface u0 x0)).rd 88 .i16 (by kernel_rfl) (by kernel_rfl) w5 rb sb lo st1 hr5 l1 l2 (by omega) n1).mono ?_)
 rintro en w6 ⟨y2, bb, st2, rfl, hc6, hr6, hrep6, hall6, hone6, hrel6⟩
 refine ⟨_, rfl, ?_⟩
 have hy2 := cell_one hall6 (hone6 rfl)
 rw [hone6 rfl] at hrep6
 have hbb6 := hb5.chg hc6 (fun e => n2 e)
 have hrep56 := Dk.up hrep5 hc6 (by rintro k rfl; exact ⟨l1, n1⟩)
 have hs6 := hc6.size
 repeat first|(with_reducible first|apply wc_region|apply wl_nil|apply qk_thn)|((with_reducible apply ws);exact rfl;exact rfl)
 refine wl_storeB (i := 2) rfl rfl to_i16 hy2 hbb6 rfl (fun w7 hb7 hg7 hs7 => ?_)
 have hc7 : Chg (· = b) w6 w7 := Chg.grown hg7
 have hr7 := hr6.chg hc7 (fun e => n2 e.symm) (fun e => hne e.symm)
 have hrepA := Dk.up hrep56 hc7 (by rintro k rfl; exact ⟨l4, hne⟩)
 have hrepB := Dk.up hrep6 hc7 (by rintro k rfl; exact ⟨l4, hne⟩)
 have hz7 := hc7.size
 have k7 : Chg (fun j => j = b ∨ w.heap.size ≤ j) w w7 := k3.trans ((hc4.wide (fun j hj => .inr (by have : j = rb := hj; omega))).trans ((hc5.wide (fun j hj => .inl hj)).trans ((hc6.wide (fun j hj => .inr (by have : j = rb := hj; omega))).trans (hc7.wide (fun j hj => .inl hj)))))
 repeat first|(with_reducible first|apply wc_seq|apply wc_region|apply wl_nil|apply qk_thn)|((with_reducible apply ws);exact rfl;exact rfl)
 refine wc_yes rfl (by simp) ?_
 repeat (with_reducible first|apply wc_seq|apply wc_region)
 refine wl_call rfl (by kernel_rfl) rfl ((Rdk.fn_ruv w7 rb sb st2 hr7 n1).mono ?_)
 rintro en w8 ⟨n, st3, rfl, hc8, hr8, hrel8⟩
 refine ⟨_, rfl, ?_⟩
 have hz8 := hc8.size
 have hbb8 := hb7.chg hc8 (fun e => n2 e)
 have hE : rdU (.int .i16 (v : Int)) ld0 xs = st3.bind fun s => uF3 (.int .i16 (v : Int)) a bb n [] ld0 s := by
  have e0 : rdU (.int .i16 (v : Int)) ld0 xs = (some xs).bind fun s => (rdP .i32 s).bind fun p => uF1 (.int .i16 (v : Int)) ld0 p.1 p.2 := rfl
  have e1 := e0.trans (rel_step (fun p s => uF1 (.int .i16 (v : Int)) ld0 p s) hrel4)
  have e2 : rdU (.int .i16 (v : Int)) ld0 xs = st1.bind fun s => (rdP .i16 s).bind fun p => uF2 (.int .i16 (v : Int)) ld0 a p.1 p.2 := e1
  have e3 := e2.trans (rel_step (fun p s => uF2 (.int .i16 (v : Int)) ld0 a p s) hrel6)
  have e4 : rdU (.int .i16 (v : Int)) ld0 xs = st2.bind fun s => (uvarP s).bind fun p => uF3 (.int .i16 (v : Int)) a bb p.1 [] ld0 p.2 := e3
  exact e4.trans (uv_step (fun p s => uF3 (.int .i16 (v : Int)) a bb p [] ld0 s) hrel8)
 have toQ : ∀ {q : Nat}, Dk sb lo w8 q → Qm sb lo w8 (.map none) q := fun h => ⟨h, by simp⟩
 have hab : Reps (Qm sb lo w8 (.map none)) w8 (a ++ bb) [y1, y2] := by
  have h1 := Dk.up hrepA hc8 (by rintro k rfl; exact ⟨l1, n1⟩)
  have h2 := Dk.up hrepB hc8 (by rintro k rfl; exact ⟨l1, n1⟩)
  exact ((Reps.app _ _ _).2 ⟨[y1], [y2], rfl, h1, h2⟩).up (fun r hr => toQ hr) (fun _ _ => rfl)
 have hld : Reps (Qm sb lo w8 (.map none)) w8 ld0 [.int .i32 (-1), .int .i32 (-1), strV [], .int .i32 0, .map none] := reps_lits [.int .i32 (-1), .int .i32 (-1), strV [], .int .i32 0, .map none]
 repeat first|(with_reducible first|apply wl_nil|apply qk_thn|apply wc_block)|((with_reducible apply ws);exact rfl;exact rfl)
 refine wc_loop (α := Nat) (fun j => [(0, .pointer (some ⟨b, 0, none⟩)), (2, .bool false), (6, .nilIface), (7, .pointer (some ⟨rb, 0, none⟩)), (9, .bool (decide ((0 : Int) ≤ (v : Int)))), (10, .pointer (some ⟨b, 0, none⟩)), (13, .int .u32 (j : Int))])
  (fun j w' => Inv (v : Int) xs w b rb sb lo j w') (fun j => j) n ⟨rfl, rfl, rfl, rfl, rfl, rfl, rfl, trivial⟩
  ⟨st3, a, bb, [], ld0, y1, y2, _, _, _, _, _, _, hrel8.1, k7.trans (hc8.wide (fun j hj => .inr (by have : j = rb := hj; omega))), by omega, hr8, hbb8, .inl ⟨rfl, rfl⟩, hab, hld, hE⟩ ?_
 clear hE hab hld toQ hbb8 hr8 hz8 hc8 hrel8 k7 hz7 hrepA hrepB hr7 hc7 hb7 hg7 hs7 hs6 hrep56 hbb6 hy2 hall6 hone6 hrep6 hr6 hc6 hrel6 hz5 hrep5 hr5 hc5 hb5 hg5 hs5 hs4 hbb4 hy1 hall4 hone4 hrep4 hr4 hc4 hrel4
 rintro j w9 ⟨s1, a, bb, u, ld, y1, y2, x3, x4, x5, x6, x7, m, hj, k9, hl9, hr9, hb9, ht9, hab9, hld9, hE9⟩
 cases j with
 | zero =>
  repeat first|(with_reducible first|apply wc_seq|apply wc_region|apply wl_nil|apply qk_thn)|((with_reducible apply ws);exact rfl;exact rfl)
  refine wc_no rfl (by simp) ?_
  repeat (with_reducible first|apply wc_seq|apply wc_region|apply qk_thn|apply wc_exit|apply qk_thn_exit|apply qk_in_exit|apply qk_round_exit)
  refine wl_call rfl (by kernel_rfl) rfl ((Rdk.fn_complete w9 rb sb s1 (.iface u0 x0) hr9 (hgk w9 k9)).mono ?_)
  rintro en w10 ⟨rfl, rfl⟩
  refine ⟨_, rfl, ?_⟩
  repeat first|(with_reducible first|apply wl_nil|apply qk_thn|apply wc_ret)|((with_reducible apply ws);exact rfl;exact rfl)
  refine qk_ret1 rfl rfl ⟨k9, ?_⟩
  rw [hE9]
  cases s1 with
  | none => rfl
  | some s =>
   refine ⟨rfl, _, lo, by omega, hb9, ?_⟩
   have up : ∀ {q : Nat}, Qm sb lo w10 m q → Dk sb lo w10 q := fun h => h.1
   have h1 := hab9.up (fun r hr => up hr) (fun _ _ => rfl)
   have h2 := hld9.up (fun r hr => up hr) (fun _ _ => rfl)
   have h3 : Rep (Dk sb lo w10) w10 (tagsK u) [m] := by
    rcases ht9 with ⟨rfl, rfl⟩ | ⟨r, rfl, hlr, ht⟩
    ·exact .inl ⟨rfl, rfl⟩
    ·exact ht.rep hlr (by omega)
   have h0 : Reps (Dk sb lo w10) w10 [.lit (.int .i16 (v : Int))] [.int .i16 (v : Int)] := reps_lits [_]
   have h4 : Reps (Dk sb lo w10) w10 [tagsK u] [m] := ⟨[m], [], rfl, h3, rfl⟩
   have h5 := (Reps.app _ _ _).2 ⟨_, _, rfl, h2, h4⟩
   have h6 := (Reps.app _ _ _).2 ⟨_, _, rfl, h1, h5⟩
   have h7 := (Reps.app _ _ _).2 ⟨_, _, rfl, h0, h6⟩
   simpa [List.append_assoc] using h7
 | succ j =>
  repeat first|(with_reducible first|apply wc_seq|apply wc_region|apply wl_nil|apply qk_thn)|((with_reducible apply ws);exact rfl;exact rfl)
  refine wc_yes rfl (by simp) ?_
  repeat (with_reducible first|apply wc_seq|apply wc_region|apply qk_thn|apply wc_block|apply wc_skip)
  refine wl_call rfl (by kernel_rfl) rfl ((Rdk.fn_ruv w9 rb sb s1 hr9 n1).mono ?_)
  rintro en w10 ⟨key, s2, rfl, hc10, hr10, hrel10⟩
  refine ⟨_, rfl, ?_⟩
  have hz10 := hc10.size
  have hb10 := hb9.chg hc10 (fun e => n2 e)
  have nrb : ∀ (w' : World) (r : Nat), lo ≤ r → r < w'.heap.size → ¬ (fun j => j = rb) r := fun w' r h _ e => by have : r = rb := e; omega
  have ht10 := ht9.keep hc10 (nrb w9) (fun e => n1 e.symm) (by omega)
  have hab10 := qm_up hab9 hc10 (by rintro k rfl; exact .inl ⟨l1, n1⟩)
  have hld10 := qm_up hld9 hc10 (by rintro k rfl; exact .inl ⟨l1, n1⟩)
  have k10 : Chg (fun j => j = b ∨ w.heap.size ≤ j) w w10 := k9.trans (hc10.wide (fun j hj => .inr (by have : j = rb := hj; omega)))
  have hE10 : rdU (.int .i16 (v : Int)) ld0 xs = s2.bind fun s => uG (.int .i16 (v : Int)) a bb j u ld key s := by
   rw [hE9]
   simp only [uF3_succ]
   exact uv_step (fun k s => uG (.int .i16 (v : Int)) a bb j u ld k s) hrel10
  repeat first|(with_reducible first|apply wc_seq|apply wc_region|apply wl_nil|apply qk_thn|apply wc_block)|((with_reducible apply ws);exact rfl;exact rfl)
  by_cases hk : key = 0
  ·refine wc_yes rfl (by simp [hk]) ?_
   repeat (with_reducible first|apply wc_seq|apply wc_region)
   refine wl_call rfl (by kernel_rfl) rfl ((Rdk.fn_ruv w10 rb sb s2 hr10 n1).mono ?_)
   rintro en w11 ⟨len, s3, rfl, hc11, hr11, hrel11⟩
   refine ⟨_, rfl, ?_⟩
   have hlen := hrel11.1
   refine wl_conv .i64 (r := (len : Int)) rfl (by kernel_rfl) (by kernel_rfl) rfl (by rw [IntKind.wrap_i64]; omega) ?_
   refine wl_call rfl (by kernel_rfl) rfl ((Rdk.fn_span w11 rb sb s3 (len : Int) hr11 n1).mono ?_)
   rintro en w12 ⟨val, bs, s4, rfl, hc12, hr12, hsv, hblim, hspan⟩
   refine ⟨_, rfl, ?_⟩
   obtain ⟨va, vn, vc, rfl⟩ : ∃ va vn vc, val = .slice va vn vc := by
    rcases hsv with ⟨rfl, _⟩ | ⟨o, c, rfl, _⟩ <;> exact ⟨_, _, _, rfl⟩
   have cA : Chg (· = rb) w10 w12 := hc11.trans hc12
   have hzA := cA.size
   have hb12 := hb10.chg cA (fun e => n2 e)
   have ht12 := ht10.keep cA (nrb w10) (fun e => n1 e.symm) (by omega)
   have hab12 := qm_up hab10 cA (by rintro k rfl; exact .inl ⟨l1, n1⟩)
   have k12 : Chg (fun j => j = b ∨ w.heap.size ≤ j) w w12 := k10.trans (cA.wide (fun j hj => .inr (by have : j = rb := hj; omega)))
   have hE12 : rdU (.int .i16 (v : Int)) ld0 xs = s4.bind fun s => uK (.int .i16 (v : Int)) a bb j u ld key bs s := by
    have e1 : rdU (.int .i16 (v : Int)) ld0 xs = s2.bind fun s => (uvarP s).bind fun p => uH (.int .i16 (v : Int)) a bb j u ld key p.1 p.2 := hE10
    have e2 := e1.trans (uv_step (fun l s => uH (.int .i16 (v : Int)) a bb j u ld key l s) hrel11)
    have e3 : rdU (.int .i16 (v : Int)) ld0 xs = s3.bind fun s => (takeN len s).bind fun p => uK (.int .i16 (v : Int)) a bb j u ld key p.1 p.2 := e2
    exact e3.trans (span_step (fun z s => uK (.int .i16 (v : Int)) a bb j u ld key z s) hspan)
   clear hc11 hr11 hrel11 hc12 hspan cA
   refine wl_build rfl (cs := [.slice va vn vc, .bool false]) (bl_rdr va vn vc) rfl ?_
   refine wl_alloc zv_rdr rfl rfl (fun w13 hb13 hg13 hs13 => ?_)
   refine wl_storeBAgg (vs := [.slice va vn vc, .bool false]) rfl rfl rfl tz_rdr rfl hb13 rfl (fun w14 hb14 hg14 hs14 => ?_)
   have c13 : Chg (fun _ => False) w12 w13 := Chg.grown0 hg13
   have c14 : Chg (· = w12.heap.size) w13 w14 := Chg.grown hg14
   have hz14 := c14.size
   obtain ⟨rb2, hrb2⟩ : ∃ r, r = w12.heap.size := ⟨_, rfl⟩
   obtain ⟨lo2, hlo2⟩ : ∃ r, r = w12.heap.size + 1 := ⟨_, rfl⟩
   rw [← hrb2] at hb14 c14
   have C14 : Chg (fun j => j = b ∨ w12.heap.size ≤ j) w12 w14 := (c13.wide (fun _ h => h.elim)).trans (c14.wide (fun j hj => .inr (by have : j = rb2 := hj; omega)))
   have hbb14 : Box w14 b [.int .i16 (v : Int), y1, y2, x3, x4, x5, x6, x7, m] 98 := (hb12.chg c13 id).chg c14 (fun e => by have : b = rb2 := e; have := hb12.lt; omega)
   obtain ⟨sbi, hi14, m2, m3, m4, m5⟩ : ∃ sbi, Rdr w14 rb2 sbi (some bs) ∧ sbi < lo2 ∧ rb2 ≠ sbi ∧ b ≠ sbi ∧ (sbi = sb ∨ bs = []) := by
    rcases hsv with ⟨hv0, hbs⟩ | ⟨o, c, hv0, hle, hcs, hz⟩
    ·refine ⟨0, ⟨_, _, hb14, hblim, .inl ⟨hv0, hbs⟩, fun h => absurd rfl h⟩, by omega, ?_, hb0, .inr hbs⟩
     have := hb12.lt
     omega
    ·refine ⟨sb, ⟨_, _, hb14, hblim, .inr ⟨o, c, hv0, hle, (hcs.chg c13 id).chg c14 (fun e => by have : sb = rb2 := e; omega), hz⟩, fun _ => by rw [hv0]; simp⟩, by omega, by omega, hne, .inl rfl⟩
   have m1 : rb2 < lo2 := by omega
   have m6 : b < rb2 := by have := hb12.lt; omega
   rw [show (Value.pointer (some ⟨w12.heap.size, 0, none⟩)) = .pointer (some ⟨rb2, 0, none⟩) by rw [hrb2]]
   repeat first|(with_reducible first|apply wc_seq|apply wc_region|apply wl_nil|apply qk_thn)|((with_reducible apply ws);exact rfl;exact rfl)
   obtain ⟨l2, hl2, hset2⟩ := Option.bind_eq_some_iff.1 (df_lead x3 x4 x5 x6 x7)
   have hdef2 := defF_ok (w := w14) hl2 (b := b) (pre := [.int .i16 (v : Int), y1, y2]) (cs := [x3, x4, x5, x6, x7]) (post := [m]) (cs' := [.int .i32 (-1), .int .i32 (-1), x5, x6, x7]) (e := 98) hbb14 hset2
   refine wl_call rfl hdef2.1 rfl (hdef2.2.mono ?_)
   rintro en w15 ⟨rfl, hb15', c15⟩
   refine ⟨_, rfl, ?_⟩
   have hb15 : Box w15 b [.int .i16 (v : Int), y1, y2, .int .i32 (-1), .int .i32 (-1), x5, x6, x7, m] 98 := hb15'
   have hz15 := c15.size
   have hi15 := hi14.chg c15 (fun e => by have : rb2 = b := e; omega) (fun e => m4 e.symm)
   have C15 := C14.trans (c15.wide (fun j hj => .inl hj))
   have nb : ∀ k : Nat, (fun j => j = b) k → k < lo2 ∧ k ≠ sbi := by rintro k rfl; exact ⟨by omega, m4⟩
   have nr : ∀ k : Nat, (fun j => j = rb2) k → k < lo2 ∧ k ≠ sbi := by rintro k rfl; exact ⟨m1, m3⟩
   have bi : ¬ (fun j => j = rb2) b := fun e => by have : b = rb2 := e; omega
   have ib : ¬ (fun j => j = b) rb2 := fun e => by have : rb2 = b := e; omega
   have sbb : ¬ (fun j => j = b) sbi := fun e => m4 e.symm
   have oR : ∀ j : Nat, (fun j => j = rb2) j → (fun j => j = b ∨ w12.heap.size ≤ j) j := fun j hj => .inr (by have : j = rb2 := hj; omega)
   have oB : ∀ j : Nat, (fun j => j = b) j → (fun j => j = b ∨ w12.heap.size ≤ j) j := fun j hj => .inl hj
   repeat first|(with_reducible first|apply wc_seq|apply wc_region|apply wl_nil|apply qk_thn)|((with_reducible apply ws);exact rfl;exact rfl)
   refine wl_call rfl (by kernel_rfl) rfl (((Rdk.kru_ok (.iface u0 x0)).rd 78 .i32 (by kernel_rfl) (by kernel_rfl) w15 rb2 sbi lo2 (some bs) hi15 m1 m2 (by omega) m3).mono ?_)
   rintro en w16 ⟨z3, da, t1, rfl, c16, hi16, hrp16, hal16, hon16, hrl16⟩
   refine ⟨_, rfl, ?_⟩
   have ho16 := cell_one hal16 (hon16 rfl)
   rw [hon16 rfl] at hrp16
   have hbb16 := hb15.chg c16 bi
   have hz16 := c16.size
   have Rda_16 : Reps (Dk sbi lo2 w16) w16 da [z3] := hrp16
   repeat first|(with_reducible first|apply wc_region|apply wl_nil|apply qk_thn)|((with_reducible apply ws);exact rfl;exact rfl)
   refine wl_storeB (i := 3) rfl rfl to_i32 ho16 hbb16 rfl (fun w17 hb17' hg17 hs17 => ?_)
   have c17 : Chg (· = b) w16 w17 := Chg.grown hg17
   have hb17 : Box w17 b [.int .i16 (v : Int), y1, y2, z3, .int .i32 (-1), x5, x6, x7, m] 98 := hb17'
   have hi17 := hi16.chg c17 ib sbb
   have hz17 := c17.size
   have Rda_17 := Dk.up Rda_16 c17 nb
   have C17 := (C15.trans (c16.wide oR)).trans (c17.wide oB)
   repeat (with_reducible first|apply wc_seq|apply wc_region|apply wl_nil|apply qk_thn)
   refine wl_call rfl (by kernel_rfl) rfl (((Rdk.kru_ok (.iface u0 x0)).rd 78 .i32 (by kernel_rfl) (by kernel_rfl) w17 rb2 sbi lo2 (t1) hi17 m1 m2 (by omega) m3).mono ?_)
   rintro en w18 ⟨z4, db, t2, rfl, c18, hi18, hrp18, hal18, hon18, hrl18⟩
   refine ⟨_, rfl, ?_⟩
   have ho18 := cell_one hal18 (hon18 rfl)
   rw [hon18 rfl] at hrp18
   have hbb18 := hb17.chg c18 bi
   have hz18 := c18.size
   have Rda_18 := Dk.up Rda_17 c18 nr
   have Rdb_18 : Reps (Dk sbi lo2 w18) w18 db [z4] := hrp18
   repeat first|(with_reducible first|apply wc_region|apply wl_nil|apply qk_thn)|((with_reducible apply ws);exact rfl;exact rfl)
   refine wl_storeB (i := 4) rfl rfl to_i32 ho18 hbb18 rfl (fun w19 hb19' hg19 hs19 => ?_)
   have c19 : Chg (· = b) w18 w19 := Chg.grown hg19
   have hb19 : Box w19 b [.int .i16 (v : Int), y1, y2, z3, z4, x5, x6, x7, m] 98 := hb19'
   have hi19 := hi18.chg c19 ib sbb
   have hz19 := c19.size
   have Rda_19 := Dk.up Rda_18 c19 nb
   have Rdb_19 := Dk.up Rdb_18 c19 nb
   have C19 := (C17.trans (c18.wide oR)).trans (c19.wide oB)
   repeat first|(with_reducible first|apply wc_seq|apply wc_region|apply wl_nil|apply qk_thn)|((with_reducible apply ws);exact rfl;exact rfl)
   refine wc_no rfl rfl ?_
   repeat first|(with_reducible first|apply wc_seq|apply wc_region|apply wl_nil|apply qk_thn)|((with_reducible apply ws);exact rfl;exact rfl)
   refine wc_yes rfl (by simp) ?_
   repeat (with_reducible apply wc_region)
   refine wl_call rfl (by kernel_rfl) rfl (((Rdk.kru_ok (.iface u0 x0)).rd 86 .cstr (by kernel_rfl) (by kernel_rfl) w19 rb2 sbi lo2 (t2) hi19 m1 m2 (by omega) m3).mono ?_)
   rintro en w20 ⟨z5, dc, t3, rfl, c20, hi20, hrp20, hal20, hon20, hrl20⟩
   refine ⟨_, rfl, ?_⟩
   have ho20 := cell_one hal20 (hon20 rfl)
   rw [hon20 rfl] at hrp20
   have hbb20 := hb19.chg c20 bi
   have hz20 := c20.size
   have Rda_20 := Dk.up Rda_19 c20 nr
   have Rdb_20 := Dk.up Rdb_19 c20 nr
   have Rdc_20 : Reps (Dk sbi lo2 w20) w20 dc [z5] := hrp20
   repeat first|(with_reducible first|apply wc_region|apply wl_nil|apply qk_thn)|((with_reducible apply ws);exact rfl;exact rfl)
   refine wl_storeB (i := 5) rfl rfl to_str ho20 hbb20 rfl (fun w21 hb21' hg21 hs21 => ?_)
   have c21 : Chg (· = b) w20 w21 := Chg.grown hg21
   have hb21 : Box w21 b [.int .i16 (v : Int), y1, y2, z3, z4, z5, x6, x7, m] 98 := hb21'
   have hi21 := hi20.chg c21 ib sbb
   have hz21 := c21.size
   have Rda_21 := Dk.up Rda_20 c21 nb
   have Rdb_21 := Dk.up Rdb_20 c21 nb
   have Rdc_21 := Dk.up Rdc_20 c21 nb
   have C21 := (C19.trans (c20.wide oR)).trans (c21.wide oB)
   repeat (with_reducible first|apply wc_seq|apply wc_region|apply wl_nil|apply qk_thn)
   refine wl_call rfl (by kernel_rfl) rfl (((Rdk.kru_ok (.iface u0 x0)).rd 78 .i32 (by kernel_rfl) (by kernel_rfl) w21 rb2 sbi lo2 (t3) hi21 m1 m2 (by omega) m3).mono ?_)
   rintro en w22 ⟨z6, dd, t4, rfl, c22, hi22, hrp22, hal22, hon22, hrl22⟩
   refine ⟨_, rfl, ?_⟩
   have ho22 := cell_one hal22 (hon22 rfl)
   rw [hon22 rfl] at hrp22
   have hbb22 := hb21.chg c22 bi
   have hz22 := c22.size
   have Rda_22 := Dk.up Rda_21 c22 nr
   have Rdb_22 := Dk.up Rdb_21 c22 nr
   have Rdc_22 := Dk.up Rdc_21 c22 nr
   have Rdd_22 : Reps (Dk sbi lo2 w22) w22 dd [z6] := hrp22
   repeat first|(with_reducible first|apply wc_region|apply wl_nil|apply qk_thn)|((with_reducible apply ws);exact rfl;exact rfl)
   refine wl_storeB (i := 6) rfl rfl to_i32 ho22 hbb22 rfl (fun w23 hb23' hg23 hs23 => ?_)
   have c23 : Chg (· = b) w22 w23 := Chg.grown hg23
   have hb23 : Box w23 b [.int .i16 (v : Int), y1, y2, z3, z4, z5, z6, x7, m] 98 := hb23'
   have hi23 := hi22.chg c23 ib sbb
   have hz23 := c23.size
   have Rda_23 := Dk.up Rda_22 c23 nb
   have Rdb_23 := Dk.up Rdb_22 c23 nb
   have Rdc_23 := Dk.up Rdc_22 c23 nb
   have Rdd_23 := Dk.up Rdd_22 c23 nb
   have C23 := (C21.trans (c22.wide oR)).trans (c23.wide oB)
   repeat first|(with_reducible first|apply wc_seq|apply wc_region|apply wl_nil|apply qk_thn)|((with_reducible apply ws);exact rfl;exact rfl)
   refine wc_yes rfl (by simp) ?_
   repeat first|(with_reducible apply wc_region)|((with_reducible apply ws);exact rfl;exact rfl)
   refine wl_call rfl (by kernel_rfl) rfl ((Rdk.fn_tags w23 rb2 sbi lo2 t4 hi23 m1 m2 (by omega) m3).mono ?_)
   rintro en w24 ⟨mm, ut, t5, rfl, c24, hi24, hmm, hrp24, hrl24⟩
   refine ⟨_, rfl, ?_⟩
   have hbb24 := hb23.chg c24 bi
   have hz24 := c24.size
   have Rda_24 := Dk.up Rda_23 c24 nr
   have Rdb_24 := Dk.up Rdb_23 c24 nr
   have Rdc_24 := Dk.up Rdc_23 c24 nr
   have Rdd_24 := Dk.up Rdd_23 c24 nr
   repeat ((with_reducible apply ws);exact rfl;exact rfl)
   refine fun ac kc => st_storeSeg (A := [.int .i16 (v : Int), y1, y2, z3, z4, z5, z6]) (seg := [x7]) (C := [m]) (vs := [mm]) (kc.eval rfl) (kc.eval rfl) rfl (by kernel_rfl) (by simpa using hmm) hbb24 rfl rfl (fun w25 hb25' hg25 => ?_)
   rw [put_none]
   refine (show WL _ _ _ _ _ _ w25 from ?_) ac kc
   have c25 : Chg (· = b) w24 w25 := Chg.grown hg25
   have hb25 : Box w25 b [.int .i16 (v : Int), y1, y2, z3, z4, z5, z6, mm, m] 98 := hb25'
   have hi25 := hi24.chg c25 ib sbb
   have hz25 := c25.size
   have Rda_25 := Dk.up Rda_24 c25 nb
   have Rdb_25 := Dk.up Rdb_24 c25 nb
   have Rdc_25 := Dk.up Rdc_24 c25 nb
   have Rdd_25 := Dk.up Rdd_24 c25 nb
   have Rt_25 : Reps (Dk sbi lo2 w25) w25 [tagsK ut] [mm] := Dk.up (ds := [tagsK ut]) (cs := [mm]) ⟨[mm], [], rfl, hrp24, rfl⟩ c25 nb
   have C25 := (C23.trans (c24.wide oR)).trans (c25.wide oB)
   have k25 : Chg (fun j => j = b ∨ w.heap.size ≤ j) w w25 := k12.trans (C25.wide (fun j hj => by rcases hj with h | h; exact .inl h; exact .inr (by have := k12.size; omega)))
   have hL : rdLead bs = t5.bind fun s => some (da ++ (db ++ (dc ++ (dd ++ [tagsK ut]))), s) := by
    have e0 : rdLead bs = (some bs).bind fun s => (rdP .i32 s).bind fun p => ldF1 p.1 p.2 := rfl
    have e1 := e0.trans (rel_step (fun p s => ldF1 p s) hrl16)
    have e2 : rdLead bs = t1.bind fun s => (rdP .i32 s).bind fun p => ldF2 da p.1 p.2 := e1
    have e3 := e2.trans (rel_step (fun p s => ldF2 da p s) hrl18)
    have e4 : rdLead bs = t2.bind fun s => (rdP .cstr s).bind fun p => ldF3 da db p.1 p.2 := e3
    have e5 := e4.trans (rel_step (fun p s => ldF3 da db p s) hrl20)
    have e6 : rdLead bs = t3.bind fun s => (rdP .i32 s).bind fun p => ldF4 da db dc p.1 p.2 := e5
    have e7 := e6.trans (rel_step (fun p s => ldF4 da db dc p s) hrl22)
    have e8 : rdLead bs = t4.bind fun s => (tagsP s).bind fun p => some (da ++ (db ++ (dc ++ (dd ++ [tagsK p.1]))), p.2) := e7
    exact e8.trans (tag_step (fun p s => some (da ++ (db ++ (dc ++ (dd ++ [tagsK p]))), s)) hrl24)
   repeat (with_reducible first|apply wc_seq|apply wc_region|apply wl_nil|apply qk_thn)
   refine wl_call rfl (by kernel_rfl) rfl ((Rdk.fn_complete w25 rb2 sbi t5 (.iface u0 x0) hi25 (hgk w25 k25)).mono ?_)
   rintro en w26 ⟨rfl, rfl⟩
   refine ⟨_, rfl, ?_⟩
   repeat first|(with_reducible first|apply wc_seq|apply wc_region|apply wl_nil|apply qk_thn)|((with_reducible apply ws);exact rfl;exact rfl)
   cases t5 with
   | none =>
    refine wl_ifNeErr rfl (by kernel_rfl) rfl ?_
    repeat (with_reducible first|apply wl_nil|apply qk_thn)
    refine wc_yes rfl rfl ?_
    repeat first|(with_reducible first|apply wc_seq|apply wc_region|apply wl_nil|apply qk_thn|apply wc_ret|apply qk_thn_ret|apply qk_in_ret|apply qk_round_ret)|((with_reducible apply ws);exact rfl;exact rfl)
    refine qk_ret1 rfl rfl ⟨k25, ?_⟩
    have hn : rdU (.int .i16 (v : Int)) ld0 xs = none := by
     rw [hE12]
     cases s4 with
     | none => rfl
     | some s => simp only [Option.bind_some, uK, hk, if_true]; rw [hL]; rfl
    rw [hn]
    rfl
   | some s5 =>
    refine wl_ifNeNil rfl (by kernel_rfl) rfl ?_
    repeat (with_reducible first|apply wl_nil|apply qk_thn)
    refine wc_no rfl rfl ?_
    repeat first|(with_reducible first|apply wc_region|apply qk_thn|apply wc_skip|apply qk_in)|((with_reducible apply ws);exact rfl;exact rfl)
    refine wl_sub' (r := (j : Int)) rfl rfl rfl (by rw [IntKind.wrap_u32]; omega) ?_
    repeat first|(with_reducible apply wl_nil)|((with_reducible apply ws);exact rfl;exact rfl)
    have hne0 : bs ≠ [] := by
     intro e
     have h0 : rdLead [] = none := rfl
     rw [e, h0] at hL
     cases hL
    have hsb2 : sbi = sb := by rcases m5 with h | h; exact h; exact absurd h hne0
    subst hsb2
    have ht26 := ht12.keep C25 (fun r h1 h2 => by rintro (h | h) <;> omega) (by rintro (h | h); exact hne h.symm; omega) (by omega)
    have hab26 := qm_up hab12 C25 (fun q hq => by rcases hq with h | h; exact .inl ⟨by omega, by rw [h]; exact hne⟩; exact .inr h)
    have hr26 : Rdr w26 rb sbi s4 := hr12.chg C25 (by rintro (h | h); exact n2 h.symm; omega) (by rintro (h | h); exact hne h.symm; omega)
    have hld26 : Reps (Qm sbi lo w26 m) w26 (da ++ (db ++ (dc ++ (dd ++ [tagsK ut])))) [z3, z4, z5, z6, mm] := by
     have h1 := (Reps.app _ _ _).2 ⟨_, _, rfl, Rdd_25, Rt_25⟩
     have h2 := (Reps.app _ _ _).2 ⟨_, _, rfl, Rdc_25, h1⟩
     have h3 := (Reps.app _ _ _).2 ⟨_, _, rfl, Rdb_25, h2⟩
     have h4 := (Reps.app _ _ _).2 ⟨_, _, rfl, Rda_25, h3⟩
     refine h4.up (fun q hq => ⟨⟨by rcases hq.1 with h | h; exact .inl h; exact .inr (by omega), hq.2⟩, fun e => ?_⟩) (fun _ _ => rfl)
     have := tagsAt_lt ht12 e
     rcases hq.1 with h | h <;> omega
    refine qk_round j ⟨rfl, rfl, rfl, rfl, rfl, rfl, rfl, trivial⟩ ⟨s4, a, bb, u, _, y1, y2, z3, z4, z5, z6, mm, m, by omega, k25, by have := C25.size; omega, hr26, hb25, ht26, hab26, hld26, ?_⟩ (by omega)
    rw [hE12]
    cases s4 with
    | none => rfl
    | some s => simp only [Option.bind_some, uK, hk, if_true]; rw [hL]; rfl
  ·refine wc_no rfl (by simp [hk]) ?_
   skip
   refine wc_par [(0, .pointer (some ⟨b, 0, none⟩)), (1, .pointer (some ⟨b, 0, none⟩)), (2, .pointer (some ⟨b, 8, none⟩)), (3, .int .u32 (key : Int))] [7, 6, 5, 4]
    (fun vals w' => match vals with
     | [] => Chg (fun _ => False) w10 w'
     | [v4] => ∃ (len : Nat) (s3 : Option (List UInt8)), v4 = .int .u32 (len : Int) ∧ Chg (· = rb) w10 w' ∧ Rdr w' rb sb s3 ∧ Rdk.UvRel s2 len s3
     | [v5, _] => ∃ (len : Nat) (s3 : Option (List UInt8)), v5 = .int .i64 (len : Int) ∧ Chg (· = rb) w10 w' ∧ Rdr w' rb sb s3 ∧ Rdk.UvRel s2 len s3
     | [v6, _, _] => ∃ (len : Nat) (s3 : Option (List UInt8)) (bs : List UInt8) (s4 : Option (List UInt8)), Chg (· = rb) w10 w' ∧ Rdr w' rb sb s4 ∧ SrcV w' sb v6 bs ∧ Rdk.UvRel s2 len s3 ∧ Rdk.SpanRel (len : Int) s3 bs s4
     | _ :: _ => ∃ (len : Nat) (s3 : Option (List UInt8)) (bs : List UInt8) (s4 : Option (List UInt8)) (wm : World) (m' : Value), Rdk.UvRel s2 len s3 ∧ Rdk.SpanRel (len : Int) s3 bs s4 ∧ Chg (· = rb) w10 wm ∧ Rdr wm rb sb s4 ∧ Box w' b [.int .i16 (v : Int), y1, y2, x3, x4, x5, x6, x7, m'] 98 ∧ Rdk.TagsAt w' sb lo m' (setTag key bs u) ∧ Chg (fun j => j = b ∨ m = .map (some j) ∨ wm.heap.size ≤ j) wm w' ∧ (m' = m ∨ ∃ r, m' = .map (some r) ∧ wm.heap.size ≤ r))
    mixed rfl rfl rfl rfl rfl (by show ([0,1,2,3] : List Nat).Nodup; decide) rfl rfl (by decide) rfl rfl rfl rfl (chg_drew _ _) ?_ ⟨?_, ?_, ?_, ?_, trivial⟩ ?_
   ·intro p hp vals w' hC ac kc
    simp only [List.mem_cons, List.not_mem_nil, or_false] at hp
    rcases hp with rfl | rfl | rfl | rfl
    ·exact gv rfl rfl (rn_move kc rfl)
    ·exact gv rfl rfl (rn_nilCheck kc rfl)
    ·exact gv rfl rfl (rn_fieldAddr kc rfl fo_tags)
    ·exact gv rfl rfl (rn_move kc rfl)
   ·rintro vals w' hvl hC ac kc
    match vals, hvl with
    | [v6, v5, v4], _ =>
     obtain ⟨len, s3, bs, s4, hc, hr', hsv, hu, hsp⟩ := hC
     have hz := hc.size
     refine ⟨_, rfl, does_call kc rfl (by kernel_rfl) ((fn_setAt w' b 8 sb lo key v6 m u _ bs _ (hb10.chg hc (fun e => n2 e)) rfl (ht10.keep hc (nrb w10) (fun e => n1 e.symm) (by omega)) hsv (by omega) (by omega) (by omega) hne).mono ?_)⟩
     rintro e w'' ⟨rfl, m', hb', ht', hc', hm'⟩
     exact ⟨_, rfl, len, s3, bs, s4, w', m', hu, hsp, hc, hr', hb', ht', hc', hm'⟩
   ·rintro vals w' hvl hC ac kc
    match vals, hvl with
    | [v5, v4], _ =>
     obtain ⟨len, s3, rfl, hc, hr', hu⟩ := hC
     refine ⟨_, rfl, does_call kc rfl (by kernel_rfl) ((Rdk.fn_span w' rb sb s3 (len : Int) hr' n1).mono ?_)⟩
     rintro e w'' ⟨val, bs, s4, rfl, hc', hr'', hsv, _, hsp⟩
     exact ⟨_, rfl, len, s3, bs, s4, hc.trans hc', hr'', hsv, hu, hsp⟩
   ·rintro vals w' hvl hC ac kc
    match vals, hvl with
    | [v4], _ =>
     obtain ⟨len, s3, rfl, hc, hr', hu⟩ := hC
     have hlen := hu.1
     refine ⟨_, rfl, Rdk.does_conv .i64 kc rfl (by kernel_rfl) (by kernel_rfl) ⟨len, s3, ?_, hc, hr', hu⟩⟩
     rw [show IntKind.i64.wrap (len : Int) = (len : Int) by rw [IntKind.wrap_i64]; omega]
   ·rintro vals w' hvl hC ac kc
    match vals, hvl with
    | [], _ =>
     refine ⟨_, rfl, does_call kc rfl (by kernel_rfl) ((Rdk.fn_ruv w' rb sb s2 (hr10.chg hC id id) n1).mono ?_)⟩
     rintro e w'' ⟨len, s3, rfl, hc', hr'', hu⟩
     exact ⟨_, rfl, len, s3, rfl, (hC.wide (fun _ h => h.elim)).trans hc', hr'', hu⟩
   ·rintro vals w' hvl hC
    match vals, hvl with
    | [v7, v6, v5, v4], _ =>
     obtain ⟨len, s3, bs, s4, wm, m', hu, hsp, hcm, hrm, hb', ht', hc', hm'⟩ := hC
     have hzm := hcm.size
     have hz' := hc'.size
     repeat first|(with_reducible first|apply wc_region|apply qk_thn|apply qk_in)|((with_reducible apply ws);exact rfl;exact rfl)
     refine wl_sub' (r := (j : Int)) rfl rfl rfl (by rw [IntKind.wrap_u32]; omega) ?_
     repeat first|(with_reducible apply wl_nil)|((with_reducible apply ws);exact rfl;exact rfl)
     have htm := ht10.keep hcm (nrb w10) (fun e => n1 e.symm) (by omega)
     have nM : ∀ q : Nat, q = sb ∨ q = rb → ¬ (fun j => j = b ∨ m = .map (some j) ∨ wm.heap.size ≤ j) q := by
      intro q hq h
      have hrl : rb < wm.heap.size := by omega
      rcases h with h | h | h
      ·rcases hq with e | e <;> omega
      ·have := tagsAt_lt htm h
       rcases hq with e | e <;> omega
      ·rcases hq with e | e <;> omega
     have toM : ∀ {ds : List D} {cs : List Value}, Reps (Qm sb lo wm m) wm ds cs → Reps (Qm sb lo w' m') w' ds cs := fun h => h.up (fun q hq => ⟨⟨hq.1.1, Nat.lt_of_lt_of_le hq.1.2 hz'⟩, by
      rcases hm' with rfl | ⟨r, rfl, hr0⟩
      ·exact hq.2
      ·have := hq.1.2
       intro e
       simp only [Value.map.injEq, Option.some.injEq] at e
       omega⟩) (fun q hq => hc'.block q hq.1.2 (by
      rintro (h | h | h)
      ·rcases hq.1.1 with e | e
       ·exact hne (h.symm.trans e)
       ·omega
      ·exact hq.2 h
      ·have := hq.1.2; omega))
     have k' : Chg (fun j => j = b ∨ w.heap.size ≤ j) w w' := (k10.trans (hcm.wide (fun j hj => .inr (by have : j = rb := hj; omega)))).trans (hc'.wide (fun j hj => by
      rcases hj with h | h | h
      ·exact .inl h
      ·exact .inr (by have := tagsAt_lt htm h; omega)
      ·exact .inr (by have := k10.size; omega)))
     refine qk_round j ⟨rfl, rfl, rfl, rfl, rfl, rfl, rfl, trivial⟩ ⟨s4, a, bb, setTag key bs u, ld, y1, y2, x3, x4, x5, x6, x7, m', by omega, k', by omega, hrm.chg hc' (nM rb (.inr rfl)) (nM sb (.inl rfl)), hb', ht', toM (qm_up hab10 hcm (by rintro k rfl; exact .inl ⟨l1, n1⟩)), toM (qm_up hld10 hcm (by rintro k rfl; exact .inl ⟨l1, n1⟩)), ?_⟩ (by omega)
     have e1 : rdU (.int .i16 (v : Int)) ld0 xs = s2.bind fun s => (uvarP s).bind fun p => uH (.int .i16 (v : Int)) a bb j u ld key p.1 p.2 := hE10
     have e2 := e1.trans (uv_step (fun l s => uH (.int .i16 (v : Int)) a bb j u ld key l s) hu)
     have e3 : rdU (.int .i16 (v : Int)) ld0 xs = s3.bind fun s => (takeN len s).bind fun p => uK (.int .i16 (v : Int)) a bb j u ld key p.1 p.2 := e2
     have e4 := e3.trans (span_step (fun z s => uK (.int .i16 (v : Int)) a bb j u ld key z s) hsp)
     rw [e4]
     cases s4 with
     | none => rfl
     | some s => simp only [Option.bind_some, uK, hk, if_false]
set_option maxHeartbeats 8000000 in
theorem fn_readFromU (v : Nat) (w : World) (u0 : TypeId) (x0 sv : Value) (b sb : Nat) (xs : List UInt8) (hb : Box w b (C0 (v : Int)) 98) (hv : SrcAt w sb sv xs) (hsb : sb < w.heap.size) (hne : b ≠ sb) (hb0 : b ≠ 0)
  (hg : w.cell? ⟨1, 0, none⟩ = some (.iface u0 x0)) (hgb : 1 ≠ b) (hgl : 1 < w.heap.size) :
  isFn Tryd.prog 72 = true ∧ Calls Tryd.prog 72 #[.pointer (some ⟨b, 0, none⟩), sv, .bool true] w fun en w' => Chg (fun j => j = b ∨ w.heap.size ≤ j) w w' ∧ match rdU (.int .i16 (v : Int)) ld0 xs with
   | some ds => en = .returned .nilIface ∧ ∃ cs' lo, w.heap.size ≤ lo ∧ Box w' b cs' 98 ∧ Reps (Dk sb lo w') w' ds cs'
   | none => en = .returned (.iface u0 x0) := by
 refine ⟨by kernel_rfl, ?_⟩
 obtain ⟨aa, nn, cc, hvs⟩ : ∃ aa nn cc, sv = .slice aa nn cc := by
  rcases hv.2 with ⟨rfl, _⟩ | ⟨o, c, rfl, _⟩
  ·exact ⟨_, _, _, rfl⟩
  ·exact ⟨_, _, _, rfl⟩
 subst hvs
 have hgk : ∀ w' : World, Chg (fun j => j = b ∨ w.heap.size ≤ j) w w' → w'.cell? ⟨1, 0, none⟩ = some (.iface u0 x0) := fun w' hc => by
  have hg3 : w'.heap[1]? = w.heap[1]? := hc.block _ hgl (by rintro (h | h); exact hgb h; omega)
  simp only [World.cell?] at hg ⊢
  rw [hg3]; exact hg
 refine enter (vs := [.pointer (some ⟨b, 0, none⟩), .slice aa nn cc, .bool true]) Tryd.func72 rfl Tryd.ntmps72 rfl ?_
 repeat first|(with_reducible first|apply wc_seq|apply wc_region|apply wl_nil|apply qk_thn)|((with_reducible apply ws);exact rfl;exact rfl)
 obtain ⟨l, hl, hset⟩ := Option.bind_eq_some_iff.1 (df_all (v : Int))
 have hdef := defF_ok (w := w) hl (b := b) (pre := []) (cs := C0 (v : Int)) (post := []) (cs' := C0 (v : Int)) (e := 98) (by simpa using hb) hset
 refine wl_call rfl hdef.1 rfl (hdef.2.mono ?_)
 rintro en w1 ⟨rfl, hb1, hc1⟩
 refine ⟨_, rfl, ?_⟩
 repeat first|(with_reducible first|apply wc_seq|apply wc_region|apply wl_nil|apply qk_thn)|((with_reducible apply ws);exact rfl;exact rfl)
 refine wl_build rfl (cs := [.slice aa nn cc, .bool false]) (bl_rdr aa nn cc) rfl ?_
 refine wl_alloc zv_rdr rfl rfl (fun w2 hb2 hg2 hs2 => ?_)
 refine wl_storeBAgg (vs := [.slice aa nn cc, .bool false]) rfl rfl rfl tz_rdr rfl hb2 rfl (fun w3 hb3 hg3 hs3 => ?_)
 have hc2 : Chg (fun _ => False) w1 w2 := Chg.grown0 hg2
 have hc3 : Chg (· = w1.heap.size) w2 w3 := Chg.grown hg3
 have hsz := hc1.size
 have hsz3 := hc3.size
 have hbsz := hb.lt
 obtain ⟨rb, hrb⟩ : ∃ rb, rb = w1.heap.size := ⟨_, rfl⟩
 obtain ⟨lo, hlo⟩ : ∃ lo, lo = w1.heap.size + 1 := ⟨_, rfl⟩
 rw [← hrb] at hb3 hc3
 have cc3 : Chg (fun j => j = b ∨ j = rb) w w3 := (hc1.wide (fun j hj => .inl hj)).trans ((hc2.wide (fun j hj => hj.elim)).trans (hc3.wide (fun j hj => .inr hj)))
 have hbb : Box w3 b (C0 (v : Int)) 98 := ((by simpa using hb1 : Box w1 b (C0 (v : Int)) 98).chg hc2 id).chg hc3 (by omega)
 have hr3 : Rdr w3 rb sb (some xs) := by
  refine ⟨_, _, hb3, hv.1, ?_, fun hz => ?_⟩
  ·rcases hv.2 with h | ⟨o, c, e1, e2, e3, e4⟩
   ·exact .inl ⟨h.1, h.2.1⟩
   ·exact .inr ⟨o, c, e1, e2, e3.chg cc3 (by rintro (h | h); exact hne h.symm; omega), e4⟩
  ·rcases hv.2 with h | ⟨o, c, e1, e2, e3, e4⟩
   ·exact absurd h.2.2 hz
   ·rw [e1]; simp
 have k3 : Chg (fun j => j = b ∨ w.heap.size ≤ j) w w3 := cc3.wide (fun j hj => by rcases hj with h | h; exact .inl h; exact .inr (by omega))
 have l1 : rb < lo := by omega
 have l2 : sb < lo := by omega
 have l3 : lo ≤ w3.heap.size := by omega
 have n1 : rb ≠ sb := by omega
 have n2 : b ≠ rb := by omega
 have l4 : b < lo := by omega
 have l5 : w.heap.size ≤ rb := by omega
 rw [show (Value.pointer (some ⟨w1.heap.size, 0, none⟩)) = .pointer (some ⟨rb, 0, none⟩) by rw [hrb]]
 clear hb1 hb2 hb3 hc1 hc2 hc3 hg2 hg3 hs2 hs3 hsz hsz3 hrb hlo cc3
 repeat first|(with_reducible first|apply wc_seq|apply wc_region|apply wl_nil|apply qk_thn)|((with_reducible apply ws);exact rfl;exact rfl)
 refine wl_loadB (i := 0) rfl to_i16 rfl hbb (v := .int .i16 (v : Int)) rfl ?_
 repeat first|(with_reducible first|apply wc_seq|apply wc_region|apply wl_nil|apply qk_thn)|((with_reducible apply ws);exact rfl;exact rfl)
 refine wl_call rfl (by kernel_rfl) rfl (((Rdk.kru_ok (.iface u0 x0)).rd 78 .i32 (by kernel_rfl) (by kernel_rfl) w3 rb sb lo (some xs) hr3 l1 l2 l3 n1).mono ?_)
 rintro en w4 ⟨y1, a, st1, rfl, hc4, hr4, hrep4, hall4, hone4, hrel4⟩
 refine ⟨_, rfl, ?_⟩
 have hy1 := cell_one hall4 (hone4 rfl)
 rw [hone4 rfl] at hrep4
 have hbb4 := hbb.chg hc4 (fun e => n2 e)
 have hs4 := hc4.size
 repeat first|(with_reducible first|apply wc_region|apply wl_nil|apply qk_thn)|((with_reducible apply ws);exact rfl;exact rfl)
 refine wl_storeB (i := 1) rfl rfl to_i32 hy1 hbb4 rfl (fun w5 hb5 hg5 hs5 => ?_)
 have hc5 : Chg (· = b) w4 w5 := Chg.grown hg5
 have hr5 := hr4.chg hc5 (fun e => n2 e.symm) (fun e => hne e.symm)
 have hrep5 := Dk.up hrep4 hc5 (by rintro k rfl; exact ⟨l4, hne⟩)
 have hz5 := hc5.size
 repeat (with_reducible first|apply wc_seq|apply wc_region|apply wl_nil|apply qk_thn)
 refine wl_call rfl (by kernel_rfl) rfl (((Rdk.kru_ok (.iface u0 x0)).rd 88 .i16 (by kernel_rfl) (by kernel_rfl) w5 rb sb lo st1 hr5 l1 l2 (by omega) n1).mono ?_)
 rintro en w6 ⟨y2, bb, st2, rfl, hc6, hr6, hrep6, hall6, hone6, hrel6⟩
 refine ⟨_, rfl, ?_⟩
 have hy2 := cell_one hall6 (hone6 rfl)
 rw [hone6 rfl] at hrep6
 have hbb6 := hb5.chg hc6 (fun e => n2 e)
 have hrep56 := Dk.up hrep5 hc6 (by rintro k rfl; exact ⟨l1, n1⟩)
 have hs6 := hc6.size
 repeat first|(with_reducible first|apply wc_region|apply wl_nil|apply qk_thn)|((with_reducible apply ws);exact rfl;exact rfl)
 refine wl_storeB (i := 2) rfl rfl to_i16 hy2 hbb6 rfl (fun w7 hb7 hg7 hs7 => ?_)
 have hc7 : Chg (· = b) w6 w7 := Chg.grown hg7
 have hr7 := hr6.chg hc7 (fun e => n2 e.symm) (fun e => hne e.symm)
 have hrepA := Dk.up hrep56 hc7 (by rintro k rfl; exact ⟨l4, hne⟩)
 have hrepB := Dk.up hrep6 hc7 (by rintro k rfl; exact ⟨l4, hne⟩)
 have hz7 := hc7.size
 have k7 : Chg (fun j => j = b ∨ w.heap.size ≤ j) w w7 := k3.trans ((hc4.wide (fun j hj => .inr (by have : j = rb := hj; omega))).trans ((hc5.wide (fun j hj => .inl hj)).trans ((hc6.wide (fun j hj => .inr (by have : j = rb := hj; omega))).trans (hc7.wide (fun j hj => .inl hj)))))
 repeat first|(with_reducible first|apply wc_seq|apply wc_region|apply wl_nil|apply qk_thn)|((with_reducible apply ws);exact rfl;exact rfl)
 refine wc_yes rfl (by simp) ?_
 repeat (with_reducible first|apply wc_seq|apply wc_region)
 refine wl_call rfl (by kernel_rfl) rfl ((Rdk.fn_ruv w7 rb sb st2 hr7 n1).mono ?_)
 rintro en w8 ⟨n, st3, rfl, hc8, hr8, hrel8⟩
 refine ⟨_, rfl, ?_⟩
 have hz8 := hc8.size
 have hbb8 := hb7.chg hc8 (fun e => n2 e)
 have hE : rdU (.int .i16 (v : Int)) ld0 xs = st3.bind fun s => uF3 (.int .i16 (v : Int)) a bb n [] ld0 s := by
  have e0 : rdU (.int .i16 (v : Int)) ld0 xs = (some xs).bind fun s => (rdP .i32 s).bind fun p => uF1 (.int .i16 (v : Int)) ld0 p.1 p.2 := rfl
  have e1 := e0.trans (rel_step (fun p s => uF1 (.int .i16 (v : Int)) ld0 p s) hrel4)
  have e2 : rdU (.int .i16 (v : Int)) ld0 xs = st1.bind fun s => (rdP .i16 s).bind fun p => uF2 (.int .i16 (v : Int)) ld0 a p.1 p.2 := e1
  have e3 := e2.trans (rel_step (fun p s => uF2 (.int .i16 (v : Int)) ld0 a p s) hrel6)
  have e4 : rdU (.int .i16 (v : Int)) ld0 xs = st2.bind fun s => (uvarP s).bind fun p => uF3 (.int .i16 (v : Int)) a bb p.1 [] ld0 p.2 := e3
  exact e4.trans (uv_step (fun p s => uF3 (.int .i16 (v : Int)) a bb p [] ld0 s) hrel8)
 have toQ : ∀ {q : Nat}, Dk sb lo w8 q → Qm sb lo w8 (.map none) q := fun h => ⟨h, by simp⟩
 have hab : Reps (Qm sb lo w8 (.map none)) w8 (a ++ bb) [y1, y2] := by
  have h1 := Dk.up hrepA hc8 (by rintro k rfl; exact ⟨l1, n1⟩)
  have h2 := Dk.up hrepB hc8 (by rintro k rfl; exact ⟨l1, n1⟩)
  exact ((Reps.app _ _ _).2 ⟨[y1], [y2], rfl, h1, h2⟩).up (fun r hr => toQ hr) (fun _ _ => rfl)
 have hld : Reps (Qm sb lo w8 (.map none)) w8 ld0 [.int .i32 (-1), .int .i32 (-1), strV [], .int .i32 0, .map none] := reps_lits [.int .i32 (-1), .int .i32 (-1), strV [], .int .i32 0, .map none]
 repeat first|(with_reducible first|apply wl_nil|apply qk_thn|apply wc_block)|((with_reducible apply ws);exact rfl;exact rfl)
 refine wc_loop (α := Nat) (fun j => [(0, .pointer (some ⟨b, 0, none⟩)), (2, .bool true), (6, .nilIface), (7, .pointer (some ⟨rb, 0, none⟩)), (9, .bool (decide ((0 : Int) ≤ (v : Int)))), (10, .pointer (some ⟨b, 0, none⟩)), (13, .int .u32 (j : Int))])
  (fun j w' => Inv (v : Int) xs w b rb sb lo j w') (fun j => j) n ⟨rfl, rfl, rfl, rfl, rfl, rfl, rfl, trivial⟩
  ⟨st3, a, bb, [], ld0, y1, y2, _, _, _, _, _, _, hrel8.1, k7.trans (hc8.wide (fun j hj => .inr (by have : j = rb := hj; omega))), by omega, hr8, hbb8, .inl ⟨rfl, rfl⟩, hab, hld, hE⟩ ?_
 clear hE hab hld toQ hbb8 hr8 hz8 hc8 hrel8 k7 hz7 hrepA hrepB hr7 hc7 hb7 hg7 hs7 hs6 hrep56 hbb6 hy2 hall6 hone6 hrep6 hr6 hc6 hrel6 hz5 hrep5 hr5 hc5 hb5 hg5 hs5 hs4 hbb4 hy1 hall4 hone4 hrep4 hr4 hc4 hrel4
 rintro j w9 ⟨s1, a, bb, u, ld, y1, y2, x3, x4, x5, x6, x7, m, hj, k9, hl9, hr9, hb9, ht9, hab9, hld9, hE9⟩
 cases j with
 | zero =>
  repeat first|(with_reducible first|apply wc_seq|apply wc_region|apply wl_nil|apply qk_thn)|((with_reducible apply ws);exact rfl;exact rfl)
  refine wc_no rfl (by simp) ?_
  repeat (with_reducible first|apply wc_seq|apply wc_region|apply qk_thn|apply wc_exit|apply qk_thn_exit|apply qk_in_exit|apply qk_round_exit)
  refine wl_call rfl (by kernel_rfl) rfl ((Rdk.fn_complete w9 rb sb s1 (.iface u0 x0) hr9 (hgk w9 k9)).mono ?_)
  rintro en w10 ⟨rfl, rfl⟩
  refine ⟨_, rfl, ?_⟩
  repeat first|(with_reducible first|apply wl_nil|apply qk_thn|apply wc_ret)|((with_reducible apply ws);exact rfl;exact rfl)
  refine qk_ret1 rfl rfl ⟨k9, ?_⟩
  rw [hE9]
  cases s1 with
  | none => rfl
  | some s =>
   refine ⟨rfl, _, lo, by omega, hb9, ?_⟩
   have up : ∀ {q : Nat}, Qm sb lo w10 m q → Dk sb lo w10 q := fun h => h.1
   have h1 := hab9.up (fun r hr => up hr) (fun _ _ => rfl)
   have h2 := hld9.up (fun r hr => up hr) (fun _ _ => rfl)
   have h3 : Rep (Dk sb lo w10) w10 (tagsK u) [m] := by
    rcases ht9 with ⟨rfl, rfl⟩ | ⟨r, rfl, hlr, ht⟩
    ·exact .inl ⟨rfl, rfl⟩
    ·exact ht.rep hlr (by omega)
   have h0 : Reps (Dk sb lo w10) w10 [.lit (.int .i16 (v : Int))] [.int .i16 (v : Int)] := reps_lits [_]
   have h4 : Reps (Dk sb lo w10) w10 [tagsK u] [m] := ⟨[m], [], rfl, h3, rfl⟩
   have h5 := (Reps.app _ _ _).2 ⟨_, _, rfl, h2, h4⟩
   have h6 := (Reps.app _ _ _).2 ⟨_, _, rfl, h1, h5⟩
   have h7 := (Reps.app _ _ _).2 ⟨_, _, rfl, h0, h6⟩
   simpa [List.append_assoc] using h7
 | succ j =>
  repeat first|(with_reducible first|apply wc_seq|apply wc_region|apply wl_nil|apply qk_thn)|((with_reducible apply ws);exact rfl;exact rfl)
  refine wc_yes rfl (by simp) ?_
  repeat (with_reducible first|apply wc_seq|apply wc_region|apply qk_thn|apply wc_block|apply wc_skip)
  refine wl_call rfl (by kernel_rfl) rfl ((Rdk.fn_ruv w9 rb sb s1 hr9 n1).mono ?_)
  rintro en w10 ⟨key, s2, rfl, hc10, hr10, hrel10⟩
  refine ⟨_, rfl, ?_⟩
  have hz10 := hc10.size
  have hb10 := hb9.chg hc10 (fun e => n2 e)
  have nrb : ∀ (w' : World) (r : Nat), lo ≤ r → r < w'.heap.size → ¬ (fun j => j = rb) r := fun w' r h _ e => by have : r = rb := e; omega
  have ht10 := ht9.keep hc10 (nrb w9) (fun e => n1 e.symm) (by omega)
  have hab10 := qm_up hab9 hc10 (by rintro k rfl; exact .inl ⟨l1, n1⟩)
  have hld10 := qm_up hld9 hc10 (by rintro k rfl; exact .inl ⟨l1, n1⟩)
  have k10 : Chg (fun j => j = b ∨ w.heap.size ≤ j) w w10 := k9.trans (hc10.wide (fun j hj => .inr (by have : j = rb := hj; omega)))
  have hE10 : rdU (.int .i16 (v : Int)) ld0 xs = s2.bind fun s => uG (.int .i16 (v : Int)) a bb j u ld key s := by
   rw [hE9]
   simp only [uF3_succ]
   exact uv_step (fun k s => uG (.int .i16 (v : Int)) a bb j u ld k s) hrel10
  repeat first|(with_reducible first|apply wc_seq|apply wc_region|apply wl_nil|apply qk_thn|apply wc_block)|((with_reducible apply ws);exact rfl;exact rfl)
  by_cases hk : key = 0
  ·refine wc_yes rfl (by simp [hk]) ?_
   repeat (with_reducible first|apply wc_seq|apply wc_region)
   refine wl_call rfl (by kernel_rfl) rfl ((Rdk.fn_ruv w10 rb sb s2 hr10 n1).mono ?_)
   rintro en w11 ⟨len, s3, rfl, hc11, hr11, hrel11⟩
   refine ⟨_, rfl, ?_⟩
   have hlen := hrel11.1
   refine wl_conv .i64 (r := (len : Int)) rfl (by kernel_rfl) (by kernel_rfl) rfl (by rw [IntKind.wrap_i64]; omega) ?_
   refine wl_call rfl (by kernel_rfl) rfl ((Rdk.fn_span w11 rb sb s3 (len : Int) hr11 n1).mono ?_)
   rintro en w12 ⟨val, bs, s4, rfl, hc12, hr12, hsv, hblim, hspan⟩
   refine ⟨_, rfl, ?_⟩
   obtain ⟨va, vn, vc, rfl⟩ : ∃ va vn vc, val = .slice va vn vc := by
    rcases hsv with ⟨rfl, _⟩ | ⟨o, c, rfl, _⟩ <;> exact ⟨_, _, _, rfl⟩
   have cA : Chg (· = rb) w10 w12 := hc11.trans hc12
   have hzA := cA.size
   have hb12 := hb10.chg cA (fun e => n2 e)
   have ht12 := ht10.keep cA (nrb w10) (fun e => n1 e.symm) (by omega)
   have hab12 := qm_up hab10 cA (by rintro k rfl; exact .inl ⟨l1, n1⟩)
   have k12 : Chg (fun j => j = b ∨ w.heap.size ≤ j) w w12 := k10.trans (cA.wide (fun j hj => .inr (by have : j = rb := hj; omega)))
   have hE12 : rdU (.int .i16 (v : Int)) ld0 xs = s4.bind fun s => uK (.int .i16 (v : Int)) a bb j u ld key bs s := by
    have e1 : rdU (.int .i16 (v : Int)) ld0 xs = s2.bind fun s => (uvarP s).bind fun p => uH (.int .i16 (v : Int)) a bb j u ld key p.1 p.2 := hE10
    have e2 := e1.trans (uv_step (fun l s => uH (.int .i16 (v : Int)) a bb j u ld key l s) hrel11)
    have e3 : rdU (.int .i16 (v : Int)) ld0 xs = s3.bind fun s => (takeN len s).bind fun p => uK (.int .i16 (v : Int)) a bb j u ld key p.1 p.2 := e2
    exact e3.trans (span_step (fun z s => uK (.int .i16 (v : Int)) a bb j u ld key z s) hspan)
   clear hc11 hr11 hrel11 hc12 hspan cA
   refine wl_build rfl (cs := [.slice va vn vc, .bool false]) (bl_rdr va vn vc) rfl ?_
   refine wl_alloc zv_rdr rfl rfl (fun w13 hb13 hg13 hs13 => ?_)
   refine wl_storeBAgg (vs := [.slice va vn vc, .bool false]) rfl rfl rfl tz_rdr rfl hb13 rfl (fun w14 hb14 hg14 hs14 => ?_)
   have c13 : Chg (fun _ => False) w12 w13 := Chg.grown0 hg13
   have c14 : Chg (· = w12.heap.size) w13 w14 := Chg.grown hg14
   have hz14 := c14.size
   obtain ⟨rb2, hrb2⟩ : ∃ r, r = w12.heap.size := ⟨_, rfl⟩
   obtain ⟨lo2, hlo2⟩ : ∃ r, r = w12.heap.size + 1 := ⟨_, rfl⟩
   rw [← hrb2] at hb14 c14
   have C14 : Chg (fun j => j = b ∨ w12.heap.size ≤ j) w12 w14 := (c13.wide (fun _ h => h.elim)).trans (c14.wide (fun j hj => .inr (by have : j = rb2 := hj; omega)))
   have hbb14 : Box w14 b [.int .i16 (v : Int), y1, y2, x3, x4, x5, x6, x7, m] 98 := (hb12.chg c13 id).chg c14 (fun e => by have : b = rb2 := e; have := hb12.lt; omega)
   obtain ⟨sbi, hi14, m2, m3, m4, m5⟩ : ∃ sbi, Rdr w14 rb2 sbi (some bs) ∧ sbi < lo2 ∧ rb2 ≠ sbi ∧ b ≠ sbi ∧ (sbi = sb ∨ bs = []) := by
    rcases hsv with ⟨hv0, hbs⟩ | ⟨o, c, hv0, hle, hcs, hz⟩
    ·refine ⟨0, ⟨_, _, hb14, hblim, .inl ⟨hv0, hbs⟩, fun h => absurd rfl h⟩, by omega, ?_, hb0, .inr hbs⟩
     have := hb12.lt
     omega
    ·refine ⟨sb, ⟨_, _, hb14, hblim, .inr ⟨o, c, hv0, hle, (hcs.chg c13 id).chg c14 (fun e => by have : sb = rb2 := e; omega), hz⟩, fun _ => by rw [hv0]; simp⟩, by omega, by omega, hne, .inl rfl⟩
   have m1 : rb2 < lo2 := by omega
   have m6 : b < rb2 := by have := hb12.lt; omega
   rw [show (Value.pointer (some ⟨w12.heap.size, 0, none⟩)) = .pointer (some ⟨rb2, 0, none⟩) by rw [hrb2]]
   repeat first|(with_reducible first|apply wc_seq|apply wc_region|apply wl_nil|apply qk_thn)|((with_reducible apply ws);exact rfl;exact rfl)
   obtain ⟨l2, hl2, hset2⟩ := Option.bind_eq_some_iff.1 (df_lead x3 x4 x5 x6 x7)
   have hdef2 := defF_ok (w := w14) hl2 (b := b) (pre := [.int .i16 (v : Int), y1, y2]) (cs := [x3, x4, x5, x6, x7]) (post := [m]) (cs' := [.int .i32 (-1), .int .i32 (-1), x5, x6, x7]) (e := 98) hbb14 hset2
   refine wl_call rfl hdef2.1 rfl (hdef2.2.mono ?_)
   rintro en w15 ⟨rfl, hb15', c15⟩
   refine ⟨_, rfl, ?_⟩
   have hb15 : Box w15 b [.int .i16 (v : Int), y1, y2, .int .i32 (-1), .int .i32 (-1), x5, x6, x7, m] 98 := hb15'
   have hz15 := c15.size
   have hi15 := hi14.chg c15 (fun e => by have : rb2 = b := e; omega) (fun e => m4 e.symm)
   have C15 := C14.trans (c15.wide (fun j hj => .inl hj))
   have nb : ∀ k : Nat, (fun j => j = b) k → k < lo2 ∧ k ≠ sbi := by rintro k rfl; exact ⟨by omega, m4⟩
   have nr : ∀ k : Nat, (fun j => j = rb2) k → k < lo2 ∧ k ≠ sbi := by rintro k rfl; exact ⟨m1, m3⟩
   have bi : ¬ (fun j => j = rb2) b := fun e => by have : b = rb2 := e; omega
   have ib : ¬ (fun j => j = b) rb2 := fun e => by have : rb2 = b := e; omega
   have sbb : ¬ (fun j => j = b) sbi := fun e => m4 e.symm
   have oR : ∀ j : Nat, (fun j => j = rb2) j → (fun j => j = b ∨ w12.heap.size ≤ j) j := fun j hj => .inr (by have : j = rb2 := hj; omega)
   have oB : ∀ j : Nat, (fun j => j = b) j → (fun j => j = b ∨ w12.heap.size ≤ j) j := fun j hj => .inl hj
   repeat first|(with_reducible first|apply wc_seq|apply wc_region|apply wl_nil|apply qk_thn)|((with_reducible apply ws);exact rfl;exact rfl)
   refine wl_call rfl (by kernel_rfl) rfl (((Rdk.kru_ok (.iface u0 x0)).rd 78 .i32 (by kernel_rfl) (by kernel_rfl) w15 rb2 sbi lo2 (some bs) hi15 m1 m2 (by omega) m3).mono ?_)
   rintro en w16 ⟨z3, da, t1, rfl, c16, hi16, hrp16, hal16, hon16, hrl16⟩
   refine ⟨_, rfl, ?_⟩
   have ho16 := cell_one hal16 (hon16 rfl)
   rw [hon16 rfl] at hrp16
   have hbb16 := hb15.chg c16 bi
   have hz16 := c16.size
   have Rda_16 : Reps (Dk sbi lo2 w16) w16 da [z3] := hrp16
   repeat first|(with_reducible first|apply wc_region|apply wl_nil|apply qk_thn)|((with_reducible apply ws);exact rfl;exact rfl)
   refine wl_storeB (i := 3) rfl rfl to_i32 ho16 hbb16 rfl (fun w17 hb17' hg17 hs17 => ?_)
   have c17 : Chg (· = b) w16 w17 := Chg.grown hg17
   have hb17 : Box w17 b [.int .i16 (v : Int), y1, y2, z3, .int .i32 (-1), x5, x6, x7, m] 98 := hb17'
   have hi17 := hi16.chg c17 ib sbb
   have hz17 := c17.size
   have Rda_17 := Dk.up Rda_16 c17 nb
   have C17 := (C15.trans (c16.wide oR)).trans (c17.wide oB)
   repeat (with_reducible first|apply wc_seq|apply wc_region|apply wl_nil|apply qk_thn)
   refine wl_call rfl (by kernel_rfl) rfl (((Rdk.kru_ok (.iface u0 x0)).rd 78 .i32 (by kernel_rfl) (by kernel_rfl) w17 rb2 sbi lo2 (t1) hi17 m1 m2 (by omega) m3).mono ?_)
   rintro en w18 ⟨z4, db, t2, rfl, c18, hi18, hrp18, hal18, hon18, hrl18⟩
   refine ⟨_, rfl, ?_⟩
   have ho18 := cell_one hal18 (hon18 rfl)
   rw [hon18 rfl] at hrp18
   have hbb18 := hb17.chg c18 bi
   have hz18 := c18.size
   have Rda_18 := Dk.up Rda_17 c18 nr
   have Rdb_18 : Reps (Dk sbi lo2 w18) w18 db [z4] := hrp18
   repeat first|(with_reducible first|apply wc_region|apply wl_nil|apply qk_thn)|((with_reducible apply ws);exact rfl;exact rfl)
   refine wl_storeB (i := 4) rfl rfl to_i32 ho18 hbb18 rfl (fun w19 hb19' hg19 hs19 => ?_)
   have c19 : Chg (· = b) w18 w19 := Chg.grown hg19
   have hb19 : Box w19 b [.int .i16 (v : Int), y1, y2, z3, z4, x5, x6, x7, m] 98 := hb19'
   have hi19 := hi18.chg c19 ib sbb
   have hz19 := c19.size
   have Rda_19 := Dk.up Rda_18 c19 nb
   have Rdb_19 := Dk.up Rdb_18 c19 nb
   have C19 := (C17.trans (c18.wide oR)).trans (c19.wide oB)
   repeat first|(with_reducible first|apply wc_seq|apply wc_region|apply wl_nil|apply qk_thn)|((with_reducible apply ws);exact rfl;exact rfl)
   refine wc_yes rfl rfl ?_
   repeat first|(with_reducible first|apply wc_seq|apply wc_region|apply wl_nil|apply qk_thn)|((with_reducible apply ws);exact rfl;exact rfl)
   refine wc_yes rfl (by simp) ?_
   repeat (with_reducible apply wc_region)
   refine wl_call rfl (by kernel_rfl) rfl (((Rdk.kru_ok (.iface u0 x0)).rd 84 .cstr (by kernel_rfl) (by kernel_rfl) w19 rb2 sbi lo2 (t2) hi19 m1 m2 (by omega) m3).mono ?_)
   rintro en w20 ⟨z5, dc, t3, rfl, c20, hi20, hrp20, hal20, hon20, hrl20⟩
   refine ⟨_, rfl, ?_⟩
   have ho20 := cell_one hal20 (hon20 rfl)
   rw [hon20 rfl] at hrp20
   have hbb20 := hb19.chg c20 bi
   have hz20 := c20.size
   have Rda_20 := Dk.up Rda_19 c20 nr
   have Rdb_20 := Dk.up Rdb_19 c20 nr
   have Rdc_20 : Reps (Dk sbi lo2 w20) w20 dc [z5] := hrp20
   repeat first|(with_reducible first|apply wc_region|apply wl_nil|apply qk_thn)|((with_reducible apply ws);exact rfl;exact rfl)
   refine wl_storeB (i := 5) rfl rfl to_str ho20 hbb20 rfl (fun w21 hb21' hg21 hs21 => ?_)
   have c21 : Chg (· = b) w20 w21 := Chg.grown hg21
   have hb21 : Box w21 b [.int .i16 (v : Int), y1, y2, z3, z4, z5, x6, x7, m] 98 := hb21'
   have hi21 := hi20.chg c21 ib sbb
   have hz21 := c21.size
   have Rda_21 := Dk.up Rda_20 c21 nb
   have Rdb_21 := Dk.up Rdb_20 c21 nb
   have Rdc_21 := Dk.up Rdc_20 c21 nb
   have C21 := (C19.trans (c20.wide oR)).trans (c21.wide oB)
   repeat (with_reducible first|apply wc_seq|apply wc_region|apply wl_nil|apply qk_thn)
   refine wl_call rfl (by kernel_rfl) rfl (((Rdk.kru_ok (.iface u0 x0)).rd 78 .i32 (by kernel_rfl) (by kernel_rfl) w21 rb2 sbi lo2 (t3) hi21 m1 m2 (by omega) m3).mono ?_)
   rintro en w22 ⟨z6, dd, t4, rfl, c22, hi22, hrp22, hal22, hon22, hrl22⟩
   refine ⟨_, rfl, ?_⟩
   have ho22 := cell_one hal22 (hon22 rfl)
   rw [hon22 rfl] at hrp22
   have hbb22 := hb21.chg c22 bi
   have hz22 := c22.size
   have Rda_22 := Dk.up Rda_21 c22 nr
   have Rdb_22 := Dk.up Rdb_21 c22 nr
   have Rdc_22 := Dk.up Rdc_21 c22 nr
   have Rdd_22 : Reps (Dk sbi lo2 w22) w22 dd [z6] := hrp22
   repeat first|(with_reducible first|apply wc_region|apply wl_nil|apply qk_thn)|((with_reducible apply ws);exact rfl;exact rfl)
   refine wl_storeB (i := 6) rfl rfl to_i32 ho22 hbb22 rfl (fun w23 hb23' hg23 hs23 => ?_)
   have c23 : Chg (· = b) w22 w23 := Chg.grown hg23
   have hb23 : Box w23 b [.int .i16 (v : Int), y1, y2, z3, z4, z5, z6, x7, m] 98 := hb23'
   have hi23 := hi22.chg c23 ib sbb
   have hz23 := c23.size
   have Rda_23 := Dk.up Rda_22 c23 nb
   have Rdb_23 := Dk.up Rdb_22 c23 nb
   have Rdc_23 := Dk.up Rdc_22 c23 nb
   have Rdd_23 := Dk.up Rdd_22 c23 nb
   have C23 := (C21.trans (c22.wide oR)).trans (c23.wide oB)
   repeat first|(with_reducible first|apply wc_seq|apply wc_region|apply wl_nil|apply qk_thn)|((with_reducible apply ws);exact rfl;exact rfl)
   refine wc_yes rfl (by simp) ?_
   repeat first|(with_reducible apply wc_region)|((with_reducible apply ws);exact rfl;exact rfl)
   refine wl_call rfl (by kernel_rfl) rfl ((Rdk.fn_tags w23 rb2 sbi lo2 t4 hi23 m1 m2 (by omega) m3).mono ?_)
   rintro en w24 ⟨mm, ut, t5, rfl, c24, hi24, hmm, hrp24, hrl24⟩
   refine ⟨_, rfl, ?_⟩
   have hbb24 := hb23.chg c24 bi
   have hz24 := c24.size
   have Rda_24 := Dk.up Rda_23 c24 nr
   have Rdb_24 := Dk.up Rdb_23 c24 nr
   have Rdc_24 := Dk.up Rdc_23 c24 nr
   have Rdd_24 := Dk.up Rdd_23 c24 nr
   repeat ((with_reducible apply ws);exact rfl;exact rfl)
   refine fun ac kc => st_storeSeg (A := [.int .i16 (v : Int), y1, y2, z3, z4, z5, z6]) (seg := [x7]) (C := [m]) (vs := [mm]) (kc.eval rfl) (kc.eval rfl) rfl (by kernel_rfl) (by simpa using hmm) hbb24 rfl rfl (fun w25 hb25' hg25 => ?_)
   rw [put_none]
   refine (show WL _ _ _ _ _ _ w25 from ?_) ac kc
   have c25 : Chg (· = b) w24 w25 := Chg.grown hg25
   have hb25 : Box w25 b [.int .i16 (v : Int), y1, y2, z3, z4, z5, z6, mm, m] 98 := hb25'
   have hi25 := hi24.chg c25 ib sbb
   have hz25 := c25.size
   have Rda_25 := Dk.up Rda_24 c25 nb
   have Rdb_25 := Dk.up Rdb_24 c25 nb
   have Rdc_25 := Dk.up Rdc_24 c25 nb
   have Rdd_25 := Dk.up Rdd_24 c25 nb
   have Rt_25 : Reps (Dk sbi lo2 w25) w25 [tagsK ut] [mm] := Dk.up (ds := [tagsK ut]) (cs := [mm]) ⟨[mm], [], rfl, hrp24, rfl⟩ c25 nb
   have C25 := (C23.trans (c24.wide oR)).trans (c25.wide oB)
   have k25 : Chg (fun j => j = b ∨ w.heap.size ≤ j) w w25 := k12.trans (C25.wide (fun j hj => by rcases hj with h | h; exact .inl h; exact .inr (by have := k12.size; omega)))
   have hL : rdLead bs = t5.bind fun s => some (da ++ (db ++ (dc ++ (dd ++ [tagsK ut]))), s) := by
    have e0 : rdLead bs = (some bs).bind fun s => (rdP .i32 s).bind fun p => ldF1 p.1 p.2 := rfl
    have e1 := e0.trans (rel_step (fun p s => ldF1 p s) hrl16)
    have e2 : rdLead bs = t1.bind fun s => (rdP .i32 s).bind fun p => ldF2 da p.1 p.2 := e1
    have e3 := e2.trans (rel_step (fun p s => ldF2 da p s) hrl18)
    have e4 : rdLead bs = t2.bind fun s => (rdP .cstr s).bind fun p => ldF3 da db p.1 p.2 := e3
    have e5 := e4.trans (rel_step (fun p s => ldF3 da db p s) hrl20)
    have e6 : rdLead bs = t3.bind fun s => (rdP .i32 s).bind fun p => ldF4 da db dc p.1 p.2 := e5
    have e7 := e6.trans (rel_step (fun p s => ldF4 da db dc p s) hrl22)
    have e8 : rdLead bs = t4.bind fun s => (tagsP s).bind fun p => some (da ++ (db ++ (dc ++ (dd ++ [tagsK p.1]))), p.2) := e7
    exact e8.trans (tag_step (fun p s => some (da ++ (db ++ (dc ++ (dd ++ [tagsK p]))), s)) hrl24)
   repeat (with_reducible first|apply wc_seq|apply wc_region|apply wl_nil|apply qk_thn)
   refine wl_call rfl (by kernel_rfl) rfl ((Rdk.fn_complete w25 rb2 sbi t5 (.iface u0 x0) hi25 (hgk w25 k25)).mono ?_)
   rintro en w26 ⟨rfl, rfl⟩
   refine ⟨_, rfl, ?_⟩
   repeat first|(with_reducible first|apply wc_seq|apply wc_region|apply wl_nil|apply qk_thn)|((with_reducible apply ws);exact rfl;exact rfl)
   cases t5 with
   | none =>
    refine wl_ifNeErr rfl (by kernel_rfl) rfl ?_
    repeat (with_reducible first|apply wl_nil|apply qk_thn)
    refine wc_yes rfl rfl ?_
    repeat first|(with_reducible first|apply wc_seq|apply wc_region|apply wl_nil|apply qk_thn|apply wc_ret|apply qk_thn_ret|apply qk_in_ret|apply qk_round_ret)|((with_reducible apply ws);exact rfl;exact rfl)
    refine qk_ret1 rfl rfl ⟨k25, ?_⟩
    have hn : rdU (.int .i16 (v : Int)) ld0 xs = none := by
     rw [hE12]
     cases s4 with
     | none => rfl
     | some s => simp only [Option.bind_some, uK, hk, if_true]; rw [hL]; rfl
    rw [hn]
    rfl
   | some s5 =>
    refine wl_ifNeNil rfl (by kernel_rfl) rfl ?_
    repeat (with_reducible first|apply wl_nil|apply qk_thn)
    refine wc_no rfl rfl ?_
    repeat first|(with_reducible first|apply wc_region|apply qk_thn|apply wc_skip|apply qk_in)|((with_reducible apply ws);exact rfl;exact rfl)
    refine wl_sub' (r := (j : Int)) rfl rfl rfl (by rw [IntKind.wrap_u32]; omega) ?_
    repeat first|(with_reducible apply wl_nil)|((with_reducible apply ws);exact rfl;exact rfl)
    have hne0 : bs ≠ [] := by
     intro e
     have h0 : rdLead [] = none := rfl
     rw [e, h0] at hL
     cases hL
    have hsb2 : sbi = sb := by rcases m5 with h | h; exact h; exact absurd h hne0
    subst hsb2
    have ht26 := ht12.keep C25 (fun r h1 h2 => by rintro (h | h) <;> omega) (by rintro (h | h); exact hne h.symm; omega) (by omega)
    have hab26 := qm_up hab12 C25 (fun q hq => by rcases hq with h | h; exact .inl ⟨by omega, by rw [h]; exact hne⟩; exact .inr h)
    have hr26 : Rdr w26 rb sbi s4 := hr12.chg C25 (by rintro (h | h); exact n2 h.symm; omega) (by rintro (h | h); exact hne h.symm; omega)
    have hld26 : Reps (Qm sbi lo w26 m) w26 (da ++ (db ++ (dc ++ (dd ++ [tagsK ut])))) [z3, z4, z5, z6, mm] := by
     have h1 := (Reps.app _ _ _).2 ⟨_, _, rfl, Rdd_25, Rt_25⟩
     have h2 := (Reps.app _ _ _).2 ⟨_, _, rfl, Rdc_25, h1⟩
     have h3 := (Reps.app _ _ _).2 ⟨_, _, rfl, Rdb_25, h2⟩
     have h4 := (Reps.app _ _ _).2 ⟨_, _, rfl, Rda_25, h3⟩
     refine h4.up (fun q hq => ⟨⟨by rcases hq.1 with h | h; exact .inl h; exact .inr (by omega), hq.2⟩, fun e => ?_⟩) (fun _ _ => rfl)
     have := tagsAt_lt ht12 e
     rcases hq.1 with h | h <;> omega
    refine qk_round j ⟨rfl, rfl, rfl, rfl, rfl, rfl, rfl, trivial⟩ ⟨s4, a, bb, u, _, y1, y2, z3, z4, z5, z6, mm, m, by omega, k25, by have := C25.size; omega, hr26, hb25, ht26, hab26, hld26, ?_⟩ (by omega)
    rw [hE12]
    cases s4 with
    | none => rfl
    | some s => simp only [Option.bind_some, uK, hk, if_true]; rw [hL]; rfl
  ·refine wc_no rfl (by simp [hk]) ?_
   skip
   refine wc_par [(0, .pointer (some ⟨b, 0, none⟩)), (1, .pointer (some ⟨b, 0, none⟩)), (2, .pointer (some ⟨b, 8, none⟩)), (3, .int .u32 (key : Int))] [7, 6, 5, 4]
    (fun vals w' => match vals with
     | [] => Chg (fun _ => False) w10 w'
     | [v4] => ∃ (len : Nat) (s3 : Option (List UInt8)), v4 = .int .u32 (len : Int) ∧ Chg (· = rb) w10 w' ∧ Rdr w' rb sb s3 ∧ Rdk.UvRel s2 len s3
     | [v5, _] => ∃ (len : Nat) (s3 : Option (List UInt8)), v5 = .int .i64 (len : Int) ∧ Chg (· = rb) w10 w' ∧ Rdr w' rb sb s3 ∧ Rdk.UvRel s2 len s3
     | [v6, _, _] => ∃ (len : Nat) (s3 : Option (List UInt8)) (bs : List UInt8) (s4 : Option (List UInt8)), Chg (· = rb) w10 w' ∧ Rdr w' rb sb s4 ∧ SrcV w' sb v6 bs ∧ Rdk.UvRel s2 len s3 ∧ Rdk.SpanRel (len : Int) s3 bs s4
     | _ :: _ => ∃ (len : Nat) (s3 : Option (List UInt8)) (bs : List UInt8) (s4 : Option (List UInt8)) (wm : World) (m' : Value), Rdk.UvRel s2 len s3 ∧ Rdk.SpanRel (len : Int) s3 bs s4 ∧ Chg (· = rb) w10 wm ∧ Rdr wm rb sb s4 ∧ Box w' b [.int .i16 (v : Int), y1, y2, x3, x4, x5, x6, x7, m'] 98 ∧ Rdk.TagsAt w' sb lo m' (setTag key bs u) ∧ Chg (fun j => j = b ∨ m = .map (some j) ∨ wm.heap.size ≤ j) wm w' ∧ (m' = m ∨ ∃ r, m' = .map (some r) ∧ wm.heap.size ≤ r))
    mixed rfl rfl rfl rfl rfl (by show ([0,1,2,3] : List Nat).Nodup; decide) rfl rfl (by decide) rfl rfl rfl rfl (chg_drew _ _) ?_ ⟨?_, ?_, ?_, ?_, trivial⟩ ?_
   ·intro p hp vals w' hC ac kc
    simp only [List.mem_cons, List.not_mem_nil, or_false] at hp
    rcases hp with rfl | rfl | rfl | rfl
    ·exact gv rfl rfl (rn_move kc rfl)
    ·exact gv rfl rfl (rn_nilCheck kc rfl)
    ·exact gv rfl rfl (rn_fieldAddr kc rfl fo_tags)
    ·exact gv rfl rfl (rn_move kc rfl)
   ·rintro vals w' hvl hC ac kc
    match vals, hvl with
    | [v6, v5, v4], _ =>
     obtain ⟨len, s3, bs, s4, hc, hr', hsv, hu, hsp⟩ := hC
     have hz := hc.size
     refine ⟨_, rfl, does_call kc rfl (by kernel_rfl) ((fn_setAt w' b 8 sb lo key v6 m u _ bs _ (hb10.chg hc (fun e => n2 e)) rfl (ht10.keep hc (nrb w10) (fun e => n1 e.symm) (by omega)) hsv (by omega) (by omega) (by omega) hne).mono ?_)⟩
     rintro e w'' ⟨rfl, m', hb', ht', hc', hm'⟩
     exact ⟨_, rfl, len, s3, bs, s4, w', m', hu, hsp, hc, hr', hb', ht', hc', hm'⟩
   ·rintro vals w' hvl hC ac kc
    match vals, hvl with
    | [v5, v4], _ =>
     obtain ⟨len, s3, rfl, hc, hr', hu⟩ := hC
     refine ⟨_, rfl, does_call kc rfl (by kernel_rfl) ((Rdk.fn_span w' rb sb s3 (len : Int) hr' n1).mono ?_)⟩
     rintro e w'' ⟨val, bs, s4, rfl, hc', hr'', hsv, _, hsp⟩
     exact ⟨_, rfl, len, s3, bs, s4, hc.trans hc', hr'', hsv, hu, hsp⟩
   ·rintro vals w' hvl hC ac kc
    match vals, hvl with
    | [v4], _ =>
     obtain ⟨len, s3, rfl, hc, hr', hu⟩ := hC
     have hlen := hu.1
     refine ⟨_, rfl, Rdk.does_conv .i64 kc rfl (by kernel_rfl) (by kernel_rfl) ⟨len, s3, ?_, hc, hr', hu⟩⟩
     rw [show IntKind.i64.wrap (len : Int) = (len : Int) by rw [IntKind.wrap_i64]; omega]
   ·rintro vals w' hvl hC ac kc
    match vals, hvl with
    | [], _ =>
     refine ⟨_, rfl, does_call kc rfl (by kernel_rfl) ((Rdk.fn_ruv w' rb sb s2 (hr10.chg hC id id) n1).mono ?_)⟩
     rintro e w'' ⟨len, s3, rfl, hc', hr'', hu⟩
     exact ⟨_, rfl, len, s3, rfl, (hC.wide (fun _ h => h.elim)).trans hc', hr'', hu⟩
   ·rintro vals w' hvl hC
    match vals, hvl with
    | [v7, v6, v5, v4], _ =>
     obtain ⟨len, s3, bs, s4, wm, m', hu, hsp, hcm, hrm, hb', ht', hc', hm'⟩ := hC
     have hzm := hcm.size
     have hz' := hc'.size
     repeat first|(with_reducible first|apply wc_region|apply qk_thn|apply qk_in)|((with_reducible apply ws);exact rfl;exact rfl)
     refine wl_sub' (r := (j : Int)) rfl rfl rfl (by rw [IntKind.wrap_u32]; omega) ?_
     repeat first|(with_reducible apply wl_nil)|((with_reducible apply ws);exact rfl;exact rfl)
     have htm := ht10.keep hcm (nrb w10) (fun e => n1 e.symm) (by omega)
     have nM : ∀ q : Nat, q = sb ∨ q = rb → ¬ (fun j => j = b ∨ m = .map (some j) ∨ wm.heap.size ≤ j) q := by
      intro q hq h
      have hrl : rb < wm.heap.size := by omega
      rcases h with h | h | h
      ·rcases hq with e | e <;> omega
      ·have := tagsAt_lt htm h
       rcases hq with e | e <;> omega
      ·rcases hq with e | e <;> omega
     have toM : ∀ {ds : List D} {cs : List Value}, Reps (Qm sb lo wm m) wm ds cs → Reps (Qm sb lo w' m') w' ds cs := fun h => h.up (fun q hq => ⟨⟨hq.1.1, Nat.lt_of_lt_of_le hq.1.2 hz'⟩, by
      rcases hm' with rfl | ⟨r, rfl, hr0⟩
      ·exact hq.2
      ·have := hq.1.2
       intro e
       simp only [Value.map.injEq, Option.some.injEq] at e
       omega⟩) (fun q hq => hc'.block q hq.1.2 (by
      rintro (h | h | h)
      ·rcases hq.1.1 with e | e
       ·exact hne (h.symm.trans e)
       ·omega
      ·exact hq.2 h
      ·have := hq.1.2; omega))
     have k' : Chg (fun j => j = b ∨ w.heap.size ≤ j) w w' := (k10.trans (hcm.wide (fun j hj => .inr (by have : j = rb := hj; omega)))).trans (hc'.wide (fun j hj => by
      rcases hj with h | h | h
      ·exact .inl h
      ·exact .inr (by have := tagsAt_lt htm h; omega)
      ·exact .inr (by have := k10.size; omega)))
     refine qk_round j ⟨rfl, rfl, rfl, rfl, rfl, rfl, rfl, trivial⟩ ⟨s4, a, bb, setTag key bs u, ld, y1, y2, x3, x4, x5, x6, x7, m', by omega, k', by omega, hrm.chg hc' (nM rb (.inr rfl)) (nM sb (.inl rfl)), hb', ht', toM (qm_up hab10 hcm (by rintro k rfl; exact .inl ⟨l1, n1⟩)), toM (qm_up hld10 hcm (by rintro k rfl; exact .inl ⟨l1, n1⟩)), ?_⟩ (by omega)
     have e1 : rdU (.int .i16 (v : Int)) ld0 xs = s2.bind fun s => (uvarP s).bind fun p => uH (.int .i16 (v : Int)) a bb j u ld key p.1 p.2 := hE10
     have e2 := e1.trans (uv_step (fun l s => uH (.int .i16 (v : Int)) a bb j u ld key l s) hu)
     have e3 : rdU (.int .i16 (v : Int)) ld0 xs = s3.bind fun s => (takeN len s).bind fun p => uK (.int .i16 (v : Int)) a bb j u ld key p.1 p.2 := e2
     have e4 := e3.trans (span_step (fun z s => uK (.int .i16 (v : Int)) a bb j u ld key z s) hsp)
     rw [e4]
     cases s4 with
     | none => rfl
     | some s => simp only [Option.bind_some, uK, hk, if_false]
def ComesN (fs : List Fld) (v : Int) (ld0 : List D) (xs : List UInt8) : Option Tree → Prop
 | none => rdU (.int .i16 v) ld0 xs = none
 | some T => ∃ d0 rest ds', rdU (.int .i16 v) ld0 xs = some (d0 :: rest) ∧ d0.width = 1 ∧ Imp rest ds' ∧ TellP true fs ds' T ∧ fine T ∧ ∀ T', TellP true fs ds' T' → T' = T
theorem comesN {fs : List Fld} {v : Int} {ld0 : List D} (hc : covs fs = true) (hk : fsok fs = true) (hct : ctP true fs = [.n .i32, .n .i16] ++ (ctLead ++ [.tg])) (hl : ∀ M, Typeds M ctLead ld0) : ∀ xs : List UInt8, xs.length ≤ 1000 → ∃ o, ComesN fs v ld0 xs o := by
 intro xs hx
 cases hr : rdU (.int .i16 v) ld0 xs with
 | none => exact ⟨none, hr⟩
 | some ds =>
  have h1 := rdU_typed (M := 1000) hr hx (hl 1000)
  simp only [Typeds] at h1
  obtain ⟨d0, r0, rfl, t0, h1⟩ := h1
  have t1 : Typeds 1000 (ctP true fs) r0 := by
   rw [hct]
   simp only [List.cons_append, List.nil_append, Typeds]
   exact h1
  obtain ⟨ds', i, T, k1, k2, k3⟩ := told_P (by omega) hc hk t1
  exact ⟨some T, d0, r0, ds', hr, t0.unit, i, k1, k2, k3⟩
end Go.Proofs.YtoncnffdlejbaaaDoor.Urv

namespace Go.Proofs.YtoncnffdlejbaaaDoor.BUpdateRaftVoterResponse
open Go Go.RowKit
def sUpdateRaftVoterResponseCurrentLeader : List Fld := [.mk 3 0 (-1) (-1) (-1) (-1) 0 [], .mk 3 0 (-1) (-1) (-1) (-1) 0 [], .mk 8 0 (-1) (-1) (-1) 0 0 [], .mk 3 0 (-1) (-1) (-1) 0 0 []]
def m : Msg := ⟨[.mk 3 0 (-1) (-1) (-1) 0 0 [], .mk 2 0 (-1) (-1) (-1) 0 0 [], .mk 10 0 (-1) (-1) 0 0 0 sUpdateRaftVoterResponseCurrentLeader], 0⟩
theorem m_ok : fsok m.fields = true := by decide
def most : Nat := 0
def tbl : Tbl := ⟨[(98, 0, 0)], [22]⟩
theorem tbl_ok : tbl.ok Tryd.prog = true := by kernel_rfl
theorem ws {ops : Array Oper} {Q : Exit → Act → World → Prop} {N : Nat} {rest : List Oper} {L : Sl} {w : World} {d : Nat} {ty : TypeId} {pos : String} {aft : Array Edge} {o : Op} {v : Value}
  (hs : stepOp tbl L o = some v) (hd : Nat.blt d N = true) (h : WL rest Tryd.prog ops Q N ((d, v) :: L) w) : WL (⟨some d, o, ty, pos, aft, none⟩ :: rest) Tryd.prog ops Q N L w := wl_step tbl tbl_ok hs hd h
theorem to_i16 : tyOne Tryd.prog 38 = true := by kernel_rfl
section
set_option maxRecDepth 100000
set_option maxHeartbeats 4000000
noncomputable def z0 : List Value := match Tryd.prog.info? 98 with | some i => (match i.zero with | some z => z.cells.toList | none => []) | none => []
noncomputable def d0 : List Value := match (defF Tryd.prog 71).bind fun l => setAll l z0 with | some cs => cs | none => []
noncomputable def cs0 (ver : Int) : List Value := .int .i16 ver :: d0.drop 1
theorem d0_eq : (defF Tryd.prog 71).bind (fun l => setAll l z0) = some d0 := by kernel_rfl
theorem d0_hd : d0 = .int .i16 0 :: d0.drop 1 := by kernel_rfl
theorem zv (w : World) : (zeroValue 98).run Tryd.prog w = .ok (.agg z0.toArray) w := by kernel_rfl
theorem fn_new (w : World) : Calls Tryd.prog 45 #[] w fun e w' => e = .returned (.pointer (some ⟨w.heap.size, 0, none⟩)) ∧ Box w' w.heap.size d0 98 ∧ Below w.heap.size w w' := by
 obtain ⟨l, hl, hset⟩ := Option.bind_eq_some_iff.1 d0_eq
 refine enter (vs := []) Tryd.func45 rfl Tryd.ntmps45 rfl ?_
 repeat first|(with_reducible first|apply wc_seq|apply wc_region|apply wl_nil|apply qk_thn)|((with_reducible apply ws);exact rfl;exact rfl)
 refine wl_alloc zv rfl rfl (fun w1 hb1 hg1 hs1 => ?_)
 repeat (with_reducible first|apply wc_seq|apply wc_region|apply wl_nil|apply qk_thn)
 have hdef := defF_ok (w := w1) hl (b := w.heap.size) (pre := []) (cs := z0) (post := []) (cs' := d0) (e := 98) (by simpa using hb1) hset
 refine wl_call rfl hdef.1 rfl (hdef.2.mono ?_)
 rintro e w2 ⟨rfl, hb2, hc2⟩
 refine ⟨_, rfl, ?_⟩
 repeat first|(with_reducible first|apply wc_seq|apply wc_region|apply wl_nil|apply qk_thn|apply wc_ret)|((with_reducible apply ws);exact rfl;exact rfl)
 exact qk_ret1 rfl rfl ⟨rfl, by simpa using hb2, (below_of hg1 (Nat.le_refl _) (by simp)).trans (chg_below hc2 (fun j hj h => by have : j = w.heap.size := h; omega) (by omega))⟩
theorem fn_max (w : World) : Calls Tryd.prog 20 #[] w fun e w' => e = .returned (.int .i64 (most : Int)) ∧ Below w.heap.size w w' := by
 refine enter (vs := []) Tryd.func20 rfl Tryd.ntmps20 rfl ?_
 repeat first|(with_reducible first|apply wc_seq|apply wc_region|apply wl_nil|apply qk_thn)|((with_reducible apply ws);exact rfl;exact rfl)
 refine wl_call rfl (by kernel_rfl) rfl ((fn_new w).mono ?_)
 rintro e w1 ⟨rfl, hb1, hw1⟩
 refine ⟨_, rfl, ?_⟩
 skip
 have hmax : Calls Tryd.prog 46 #[.pointer (some ⟨w.heap.size, 0, none⟩)] w1 fun e w' => e = .returned (.int .i16 (most : Int)) ∧ w' = w1 := by
  refine enter (vs := [.pointer (some ⟨w.heap.size, 0, none⟩)]) Tryd.func46 rfl Tryd.ntmps46 rfl ?_
  repeat first|(with_reducible first|apply wc_seq|apply wc_region|apply wl_nil|apply qk_thn|apply wc_ret)|((with_reducible apply ws);exact rfl;exact rfl)
  exact qk_ret1 rfl rfl ⟨rfl, rfl⟩
 refine wl_call rfl (by kernel_rfl) rfl ((hmax).mono ?_)
 rintro e w2 ⟨rfl, rfl⟩
 refine ⟨_, rfl, ?_⟩
 refine wl_conv .i64 rfl ti_i16 ti_i64 rfl (r := (most : Int)) rfl ?_
 repeat first|(with_reducible first|apply wl_nil|apply qk_thn|apply wc_ret)|((with_reducible apply ws);exact rfl;exact rfl)
 exact qk_ret1 rfl rfl ⟨rfl, hw1⟩
theorem fn_set (w : World) (b : Nat) (x : Value) (r : List Value) (ver : Int) (hb : Box w b (x :: r) 98) : Calls Tryd.prog 47 #[.pointer (some ⟨b, 0, none⟩), .int .i16 ver] w fun e w' => e = .returned (.tuple #[]) ∧ Box w' b (.int .i16 ver :: r) 98 ∧ w.grownBy w' (some b) := by
 refine enter (vs := [.pointer (some ⟨b, 0, none⟩), .int .i16 ver]) Tryd.func47 rfl Tryd.ntmps47 rfl ?_
 repeat first|(with_reducible apply wc_region)|((with_reducible apply ws);exact rfl;exact rfl)
 refine wl_storeB (i := 0) rfl rfl to_i16 rfl hb rfl (fun w1 hb1 hg1 _ => ?_)
 exact wl_nil (qk_end0 rfl ⟨rfl, hb1, hg1⟩)
theorem cov_m : covs m.fields = true := by decide
theorem ct_m : ctP true m.fields = [.n .i32, .n .i16] ++ (ctLead ++ [.tg]) := rfl
theorem c0_eq (v : Int) : cs0 v = Urv.C0 v := by kernel_rfl
theorem rd (v : Nat) : ∀ xs : List UInt8, xs.length ≤ 1000 → ∃ o, Urv.ComesN m.fields (v : Int) Urv.ld0 xs o := Urv.comesN cov_m m_ok ct_m Urv.ld0_typed
theorem fo_t4 : fieldOff Tryd.prog 27 4 = some 4 := by kernel_rfl
set_option maxHeartbeats 4000000 in
theorem clo_UpdateRaftVoterResponseCurrentLeader : ClC Tryd.prog 27 51 112 := by
 refine ⟨by kernel_rfl, fun w lo tb B hd d us k s val hU hhd hval hBt hk hs hmany => ?_⟩
 obtain ⟨a0, a1, a2, a3, rfl⟩ : ∃ a0 a1 a2 a3, hd = [a0, a1, a2, a3] := by
  match hd, hhd with
  | [a0, a1, a2, a3], _ => exact ⟨a0, a1, a2, a3, rfl⟩
 have hsq : Sq B w val (s.map byteD) := hval
 obtain ⟨va, vc, rfl, _⟩ := hsq.shape
 obtain ⟨da, dc, hds⟩ := hU.row.shape
 have hlo := hU.lt
 have hlw := hU.low
 have hdl := hU.row.low
 have hbx0 : Box w tb [a0, a1, a2, a3, d] 27 := hU.box
 refine enter (vs := [.int .u32 (k : Int), .slice va (s.map byteD).length vc, .pointer (some ⟨tb, 0, none⟩)]) Tryd.func112 rfl Tryd.ntmps112 rfl ?_
 refine wc_parS [(0, .pointer (some ⟨tb, 0 + 4, none⟩)), (1, d), (2, .int .u32 (k : Int)), (3, .slice va (s.map byteD).length vc), (8, .pointer (some ⟨tb, 0 + 4, none⟩))] [9, 7, 6, 5, 4]
  (fun vals w' => match vals with
   | [] => Chg (fun _ => False) w w'
   | [v] => Chg (fun _ => False) w w' ∧ (∃ a n c, v = .slice a n c) ∧ Rep (In 0 w.heap.size w') w' (bytesD s) [v]
   | [v, _] => Chg (fun _ => False) w w' ∧ ∃ sv, (∃ a n c, sv = .slice a n c) ∧ v = .agg ([.int .u32 (k : Int), sv] : List Value).toArray ∧ Rep (In 0 w.heap.size w') w' (bytesD s) [sv]
   | [v, _, _] => Chg (fun _ => False) w w' ∧ ∃ (b8 : Nat) (sv : Value), (∃ a n c, sv = .slice a n c) ∧ v = .slice (some ⟨b8, 0, none⟩) 1 1 ∧ Box w' b8 [.int .u32 (k : Int), sv] 51 ∧ Rep (In 0 w.heap.size w') w' (bytesD s) [sv]
   | [v, _, _, _] => Chg (fun j => d.ownBlock = some j) w w' ∧ Box w' tb [a0, a1, a2, a3, d] 27 ∧ RowD 0 lo tb 51 2 w' v ((us ++ [(k, s)]).map tagD)
   | _ :: v :: _ => Chg (fun j => j = tb ∨ d.ownBlock = some j) w w' ∧ Box w' tb [a0, a1, a2, a3, v] 27 ∧ RowD 0 lo tb 51 2 w' v ((us ++ [(k, s)]).map tagD))
  mixed rfl rfl rfl rfl rfl (by show ([0,1,2,3,8] : List Nat).Nodup; decide) rfl rfl (by decide) rfl rfl rfl rfl (chg_drew _ _) ?_ ⟨?_, ?_, ?_, ?_, ?_, trivial⟩ ?_
 ·intro p hp vals w' hC hnp a kn
  simp only [List.mem_cons, List.not_mem_nil, or_false] at hp
  rcases hp with rfl | rfl | rfl | rfl | rfl
  ·exact gv rfl rfl (rn_fieldAddr kn rfl fo_t4)
  ·have hbx : Box w' tb [a0, a1, a2, a3, d] 27 := by
    match vals, hC, hnp with
    | [], h, _ => exact hbx0.chg h (fun h => h)
    | [_], h, _ => exact hbx0.chg h.1 (fun h => h)
    | [_, _], h, _ => exact hbx0.chg h.1 (fun h => h)
    | [_, _, _], h, _ => exact hbx0.chg h.1 (fun h => h)
    | [_, _, _, _], h, _ => exact h.2.1
    | _ :: _ :: _ :: _ :: _ :: r, _, hnp =>
     have := hnp 9 (by rw [show ([9, 7, 6, 5, 4] : List Nat).length - (_ :: _ :: _ :: _ :: _ :: r).length = 0 from by simp only [List.length_cons, List.length_nil]; omega]; simp)
     exact absurd (show true = false from this) (by simp)
   exact gv rfl rfl (rn_load kn rfl Impl.to_tags (hbx.cell0 (i := 4) rfl))
  ·exact gv rfl rfl (rn_move kn rfl)
  ·exact gv rfl rfl (rn_move kn rfl)
  ·exact gv rfl rfl (rn_fieldAddr kn rfl fo_t4)
 ·rintro vals w' hvl hC a kn
  match vals, hvl with
  | [v7, v6, v5, v4], _ =>
   obtain ⟨hc, hbx, hrd⟩ := hC
   obtain ⟨a7, c7, rfl⟩ := hrd.shape
   refine ⟨_, rfl, does_storeB kn rfl rfl Impl.to_tags rfl hbx rfl (fun w'' hbx'' hg'' hs'' => ⟨?_, hbx'', hrd.stored hg''⟩)⟩
   exact (hc.wide (fun j h => .inr h)).trans ((Chg.grown hg'').wide (fun j h => .inl h))
 ·rintro vals w' hvl hC a kn
  match vals, hvl with
  | [v6, v5, v4], _ =>
   obtain ⟨hc, b8, sv, ⟨sa, sn, sc, rfl⟩, rfl, hb8, hrep⟩ := hC
   have hsz := hc.size
   have hrdw := hU.row.below ⟨hc.os, hc.tape, hc.output, hc.size, fun j hj => hc.block j hj (fun h => h)⟩
   obtain ⟨xs0, hrow0, hreps0⟩ := hrdw.row
   refine ⟨_, rfl, does_app1 kn Impl.rt_tags rfl rfl hb8 rfl rfl hrow0 (by omega) (by simp only [List.length_map]; omega) (fun d' w'' hrow'' hg'' => ⟨?_, ?_, ?_⟩)⟩
   ·have h2 : Chg (fun j => d.ownBlock = some j) w' w'' := ⟨hg''.grown.os, hg''.grown.tape, hg''.grown.output, hg''.grown.size, fun j hj hn => hg''.grown.block j hj (fun e => hn e.symm)⟩
    exact (hc.wide (fun j h => h.elim)).trans h2
   ·have hb := hbx0.chg hc (fun h => h)
    exact hb.kept hg''.grown (fun e => hU.row.apart e.symm)
   ·rw [List.map_append, List.map_cons, List.map_nil]
    refine hrdw.snoc (by omega) (by have := hbx0.lt; omega) hreps0 ?_ hrow'' hg''
    simp only [tagD, Rep, Reps]
    refine ⟨[_], _, rfl, rfl, [_], _, rfl, ?_, rfl⟩
    refine hrep.up (fun r hr => ⟨.inr (by rcases hr.1 with h | h; exact absurd h (Nat.not_lt_zero _); omega), hr.2, ?_, fun e => ?_⟩) (fun _ _ => rfl)
    ·rcases hr.1 with h | h
     ·exact absurd h (Nat.not_lt_zero _)
     ·have := hbx0.lt; omega
    ·rcases hr.1 with h | h
     ·exact absurd h (Nat.not_lt_zero _)
     ·have := (hdl r e).2; omega
 ·rintro vals w' hvl hC a kn
  match vals, hvl with
  | [v5, v4], _ =>
   obtain ⟨hc, sv, ⟨sa, sn, sc, rfl⟩, rfl, hrep⟩ := hC
   have hga := grown_alloc w' (.cells ([.int .u32 (k : Int), .slice sa sn sc] : List Value).toArray 51)
   refine ⟨_, rfl, does_slice1 (cs := [.int .u32 (k : Int), .slice sa sn sc]) kn Impl.rt_tags rfl rfl rfl rfl ⟨hc.trans (Chg.grown0 hga), _, _, ⟨sa, sn, sc, rfl⟩, rfl, box_alloc _ _ _, hrep.up (fun r hr => ⟨hr.1, by have := hr.2; simp; omega⟩) (fun r hr => hga.block r hr.2 (by simp))⟩⟩
 ·rintro vals w' hvl hC a kn
  match vals, hvl with
  | [v4], _ =>
   obtain ⟨hc, ⟨sa, sn, sc, rfl⟩, hrep⟩ := hC
   exact ⟨_, rfl, does_build (ps := [(0, .tmp 7), (1, .tmp 9)]) (cs := [.int .u32 (k : Int), .slice sa sn sc]) kn rfl (by kernel_rfl) ⟨hc, _, ⟨sa, sn, sc, rfl⟩, rfl, hrep⟩⟩
 ·rintro vals w' hvl hC a kn
  match vals, hvl with
  | [], _ =>
   have hsb : BytesAt w' (.slice va (s.map byteD).length vc) s := hsq.bytes.below ⟨hC.os, hC.tape, hC.output, hC.size, fun j hj => hC.block j hj (fun h => h)⟩
   refine ⟨_, rfl, does_appSl kn tb_bytes tb_bytes rfl rfl hsb (Own.nil w' w'.heap.size 5) (Nat.le_refl _) (by simpa using hs) (fun d' w'' ho hg => ?_)⟩
   rw [List.nil_append] at ho
   obtain ⟨oa, oc, rfl⟩ := ho.shape
   refine ⟨hC.trans (Chg.grown0 hg.grown), ⟨_, _, _, rfl⟩, own_rep (l0 := w.heap.size) ho hC.size⟩
 ·rintro vals w' hvl hC
  match vals, hvl with
  | [v9, v7, v6, v5, v4], _ =>
   obtain ⟨hc, hbx, hrd⟩ := hC
   exact qk_end0 rfl ⟨rfl, v7, ⟨hbx, hrd, hlo, by have := hc.size; omega⟩, hc⟩
set_option maxHeartbeats 4000000 in
theorem clo_UpdateRaftVoterResponse : ClC Tryd.prog 27 51 74 := by
 refine ⟨by kernel_rfl, fun w lo tb B hd d us k s val hU hhd hval hBt hk hs hmany => ?_⟩
 obtain ⟨a0, a1, a2, a3, rfl⟩ : ∃ a0 a1 a2 a3, hd = [a0, a1, a2, a3] := by
  match hd, hhd with
  | [a0, a1, a2, a3], _ => exact ⟨a0, a1, a2, a3, rfl⟩
 have hsq : Sq B w val (s.map byteD) := hval
 obtain ⟨va, vc, rfl, _⟩ := hsq.shape
 obtain ⟨da, dc, hds⟩ := hU.row.shape
 have hlo := hU.lt
 have hlw := hU.low
 have hdl := hU.row.low
 have hbx0 : Box w tb [a0, a1, a2, a3, d] 27 := hU.box
 refine enter (vs := [.int .u32 (k : Int), .slice va (s.map byteD).length vc, .pointer (some ⟨tb, 0, none⟩)]) Tryd.func74 rfl Tryd.ntmps74 rfl ?_
 refine wc_parS [(0, .pointer (some ⟨tb, 0 + 4, none⟩)), (1, d), (2, .int .u32 (k : Int)), (3, .slice va (s.map byteD).length vc), (8, .pointer (some ⟨tb, 0 + 4, none⟩))] [9, 7, 6, 5, 4]
  (fun vals w' => match vals with
   | [] => Chg (fun _ => False) w w'
   | [v] => Chg (fun _ => False) w w' ∧ (∃ a n c, v = .slice a n c) ∧ Rep (In 0 w.heap.size w') w' (bytesD s) [v]
   | [v, _] => Chg (fun _ => False) w w' ∧ ∃ sv, (∃ a n c, sv = .slice a n c) ∧ v = .agg ([.int .u32 (k : Int), sv] : List Value).toArray ∧ Rep (In 0 w.heap.size w') w' (bytesD s) [sv]
   | [v, _, _] => Chg (fun _ => False) w w' ∧ ∃ (b8 : Nat) (sv : Value), (∃ a n c, sv = .slice a n c) ∧ v = .slice (some ⟨b8, 0, none⟩) 1 1 ∧ Box w' b8 [.int .u32 (k : Int), sv] 51 ∧ Rep (In 0 w.heap.size w') w' (bytesD s) [sv]
   | [v, _, _, _] => Chg (fun j => d.ownBlock = some j) w w' ∧ Box w' tb [a0, a1, a2, a3, d] 27 ∧ RowD 0 lo tb 51 2 w' v ((us ++ [(k, s)]).map tagD)
   | _ :: v :: _ => Chg (fun j => j = tb ∨ d.ownBlock = some j) w w' ∧ Box w' tb [a0, a1, a2, a3, v] 27 ∧ RowD 0 lo tb 51 2 w' v ((us ++ [(k, s)]).map tagD))
  mixed rfl rfl rfl rfl rfl (by show ([0,1,2,3,8] : List Nat).Nodup; decide) rfl rfl (by decide) rfl rfl rfl rfl (chg_drew _ _) ?_ ⟨?_, ?_, ?_, ?_, ?_, trivial⟩ ?_
 ·intro p hp vals w' hC hnp a kn
  simp only [List.mem_cons, List.not_mem_nil, or_false] at hp
  rcases hp with rfl | rfl | rfl | rfl | rfl
  ·exact gv rfl rfl (rn_fieldAddr kn rfl fo_t4)
  ·have hbx : Box w' tb [a0, a1, a2, a3, d] 27 := by
    match vals, hC, hnp with
    | [], h, _ => exact hbx0.chg h (fun h => h)
    | [_], h, _ => exact hbx0.chg h.1 (fun h => h)
    | [_, _], h, _ => exact hbx0.chg h.1 (fun h => h)
    | [_, _, _], h, _ => exact hbx0.chg h.1 (fun h => h)
    | [_, _, _, _], h, _ => exact h.2.1
    | _ :: _ :: _ :: _ :: _ :: r, _, hnp =>
     have := hnp 9 (by rw [show ([9, 7, 6, 5, 4] : List Nat).length - (_ :: _ :: _ :: _ :: _ :: r).length = 0 from by simp only [List.length_cons, List.length_nil]; omega]; simp)
     exact absurd (show true = false from this) (by simp)
   exact gv rfl rfl (rn_load kn rfl Impl.to_tags (hbx.cell0 (i := 4) rfl))
  ·exact gv rfl rfl (rn_move kn rfl)
  ·exact gv rfl rfl (rn_move kn rfl)
  ·exact gv rfl rfl (rn_fieldAddr kn rfl fo_t4)
 ·rintro vals w' hvl hC a kn
  match vals, hvl with
  | [v7, v6, v5, v4], _ =>
   obtain ⟨hc, hbx, hrd⟩ := hC
   obtain ⟨a7, c7, rfl⟩ := hrd.shape
   refine ⟨_, rfl, does_storeB kn rfl rfl Impl.to_tags rfl hbx rfl (fun w'' hbx'' hg'' hs'' => ⟨?_, hbx'', hrd.stored hg''⟩)⟩
   exact (hc.wide (fun j h => .inr h)).trans ((Chg.grown hg'').wide (fun j h => .inl h))
 ·rintro vals w' hvl hC a kn
  match vals, hvl with
  | [v6, v5, v4], _ =>
   obtain ⟨hc, b8, sv, ⟨sa, sn, sc, rfl⟩, rfl, hb8, hrep⟩ := hC
   have hsz := hc.size
   have hrdw := hU.row.below ⟨hc.os, hc.tape, hc.output, hc.size, fun j hj => hc.block j hj (fun h => h)⟩
   obtain ⟨xs0, hrow0, hreps0⟩ := hrdw.row
   refine ⟨_, rfl, does_app1 kn Impl.rt_tags rfl rfl hb8 rfl rfl hrow0 (by omega) (by simp only [List.length_map]; omega) (fun d' w'' hrow'' hg'' => ⟨?_, ?_, ?_⟩)⟩
   ·have h2 : Chg (fun j => d.ownBlock = some j) w' w'' := ⟨hg''.grown.os, hg''.grown.tape, hg''.grown.output, hg''.grown.size, fun j hj hn => hg''.grown.block j hj (fun e => hn e.symm)⟩
    exact (hc.wide (fun j h => h.elim)).trans h2
   ·have hb := hbx0.chg hc (fun h => h)
    exact hb.kept hg''.grown (fun e => hU.row.apart e.symm)
   ·rw [List.map_append, List.map_cons, List.map_nil]
    refine hrdw.snoc (by omega) (by have := hbx0.lt; omega) hreps0 ?_ hrow'' hg''
    simp only [tagD, Rep, Reps]
    refine ⟨[_], _, rfl, rfl, [_], _, rfl, ?_, rfl⟩
    refine hrep.up (fun r hr => ⟨.inr (by rcases hr.1 with h | h; exact absurd h (Nat.not_lt_zero _); omega), hr.2, ?_, fun e => ?_⟩) (fun _ _ => rfl)
    ·rcases hr.1 with h | h
     ·exact absurd h (Nat.not_lt_zero _)
     ·have := hbx0.lt; omega
    ·rcases hr.1 with h | h
     ·exact absurd h (Nat.not_lt_zero _)
     ·have := (hdl r e).2; omega
 ·rintro vals w' hvl hC a kn
  match vals, hvl with
  | [v5, v4], _ =>
   obtain ⟨hc, sv, ⟨sa, sn, sc, rfl⟩, rfl, hrep⟩ := hC
   have hga := grown_alloc w' (.cells ([.int .u32 (k : Int), .slice sa sn sc] : List Value).toArray 51)
   refine ⟨_, rfl, does_slice1 (cs := [.int .u32 (k : Int), .slice sa sn sc]) kn Impl.rt_tags rfl rfl rfl rfl ⟨hc.trans (Chg.grown0 hga), _, _, ⟨sa, sn, sc, rfl⟩, rfl, box_alloc _ _ _, hrep.up (fun r hr => ⟨hr.1, by have := hr.2; simp; omega⟩) (fun r hr => hga.block r hr.2 (by simp))⟩⟩
 ·rintro vals w' hvl hC a kn
  match vals, hvl with
  | [v4], _ =>
   obtain ⟨hc, ⟨sa, sn, sc, rfl⟩, hrep⟩ := hC
   exact ⟨_, rfl, does_build (ps := [(0, .tmp 7), (1, .tmp 9)]) (cs := [.int .u32 (k : Int), .slice sa sn sc]) kn rfl (by kernel_rfl) ⟨hc, _, ⟨sa, sn, sc, rfl⟩, rfl, hrep⟩⟩
 ·rintro vals w' hvl hC a kn
  match vals, hvl with
  | [], _ =>
   have hsb : BytesAt w' (.slice va (s.map byteD).length vc) s := hsq.bytes.below ⟨hC.os, hC.tape, hC.output, hC.size, fun j hj => hC.block j hj (fun h => h)⟩
   refine ⟨_, rfl, does_appSl kn tb_bytes tb_bytes rfl rfl hsb (Own.nil w' w'.heap.size 5) (Nat.le_refl _) (by simpa using hs) (fun d' w'' ho hg => ?_)⟩
   rw [List.nil_append] at ho
   obtain ⟨oa, oc, rfl⟩ := ho.shape
   refine ⟨hC.trans (Chg.grown0 hg.grown), ⟨_, _, _, rfl⟩, own_rep (l0 := w.heap.size) ho hC.size⟩
 ·rintro vals w' hvl hC
  match vals, hvl with
  | [v9, v7, v6, v5, v4], _ =>
   obtain ⟨hc, hbx, hrd⟩ := hC
   exact qk_end0 rfl ⟨rfl, v7, ⟨hbx, hrd, hlo, by have := hc.size; omega⟩, hc⟩
def k0 : Tk := ⟨27, 999999, 94, 999999, 60, 62, [112, 74], 51, []⟩
theorem k0_ok : TkOk Tryd.prog k0 true := ⟨Tlk.tty, (fun h => Bool.noConfusion (h.symm.trans (show isFn Tryd.prog 999999 = false by kernel_rfl))), (fun _ => Tlk.textP), (fun h => Bool.noConfusion (h.symm.trans (show isFn Tryd.prog 999999 = false by kernel_rfl))), fun f fs h => by cases h⟩
theorem k0_tg : TgOk Tryd.prog k0 := ⟨Tlk.eachP, Tlk.sortP, fun f h => by
 simp only [k0, List.contains_eq_mem, decide_eq_true_eq, List.mem_cons, List.not_mem_nil, or_false] at h
 rcases h with rfl | rfl
 ·exact clo_UpdateRaftVoterResponseCurrentLeader
 ·exact clo_UpdateRaftVoterResponse⟩
theorem tell_sUpdateRaftVoterResponseCurrentLeader : TlPo Tryd.prog 73 true 0 sUpdateRaftVoterResponseCurrentLeader := tellFn_ok k0_ok (fun _ => k0_tg) mixed (by kernel_rfl)
def k1 : Tk := ⟨k0.tT, k0.bool, k0.text, k0.octs, k0.each, k0.sorted, k0.clos, k0.gT, (73, sUpdateRaftVoterResponseCurrentLeader) :: k0.tells⟩
theorem k1_ok : TkOk Tryd.prog k1 true := Tlk.tk_cons k0_ok tell_sUpdateRaftVoterResponseCurrentLeader
theorem k1_tg : TgOk Tryd.prog k1 := Tlk.tg_cons k0_tg _ _
theorem tell_top : TlPo Tryd.prog 49 true 1 m.fields := tellFn_ok k1_ok (fun _ => k1_tg) mixed (by kernel_rfl)
theorem fn_readT (w : World) (u0 : TypeId) (x0 sv : Value) (b sb : Nat) (v : Nat) (xs : List UInt8) (hb : Box w b (cs0 (v : Int)) 98) (hs : SrcAt w sb sv xs) (hsb : sb < w.heap.size) (hne : b ≠ sb) (hb0 : b ≠ 0)
  (hg : w.cell? ⟨1, 0, none⟩ = some (.iface u0 x0)) (hgb : 1 ≠ b) (hgl : 1 < w.heap.size) :
  Calls Tryd.prog 48 #[.pointer (some ⟨b, 0, none⟩), sv] w fun en w' => Chg (fun j => j = b ∨ w.heap.size ≤ j) w w' ∧ match rdU (.int .i16 (v : Int)) Urv.ld0 xs with
   | some x => en = .returned .nilIface ∧ ∃ cs' lo, w.heap.size ≤ lo ∧ Box w' b cs' 98 ∧ Reps (Dk sb lo w') w' x cs'
   | none => en = .returned (.iface u0 x0) := by
 have hr := Urv.fn_readFromT v w u0 x0 sv b sb xs (by rw [← c0_eq]; exact hb) hs hsb hne hb0 hg hgb hgl
 refine enter (vs := [.pointer (some ⟨b, 0, none⟩), sv]) Tryd.func48 rfl Tryd.ntmps48 rfl ?_
 repeat first|(with_reducible first|apply wc_seq|apply wc_region|apply wl_nil|apply qk_thn)|((with_reducible apply ws);exact rfl;exact rfl)
 refine wl_call rfl hr.1 rfl (hr.2.mono ?_)
 rintro en w1 ⟨hc, h⟩
 cases hR : rdU (.int .i16 (v : Int)) Urv.ld0 xs with
 | some x =>
  rw [hR] at h
  obtain ⟨rfl, h⟩ := h
  refine ⟨_, rfl, ?_⟩
  repeat first|(with_reducible first|apply wl_nil|apply qk_thn|apply wc_ret)|((with_reducible apply ws);exact rfl;exact rfl)
  exact qk_ret1 rfl rfl ⟨hc, rfl, h⟩
 | none =>
  rw [hR] at h
  obtain rfl := h
  refine ⟨_, rfl, ?_⟩
  repeat first|(with_reducible first|apply wl_nil|apply qk_thn|apply wc_ret)|((with_reducible apply ws);exact rfl;exact rfl)
  exact qk_ret1 rfl rfl ⟨hc, rfl⟩
set_option maxHeartbeats 4000000 in
theorem fn_doorT (v : Nat) (hv : v ≤ most) (w : World) (u : TypeId) (x sv : Value) (xs : List UInt8) (hxl : xs.length ≤ 1000) (hs : BytesAt w sv xs) (hg : w.cell? ⟨1, 0, none⟩ = some (.iface u x)) (o : Option Tree) (H : Urv.ComesN m.fields (v : Int) Urv.ld0 xs o) :
  Calls Tryd.prog 21 #[.int .i64 (v : Int), sv] w fun e w' => Below w.heap.size w w' ∧ match o with
   | none => ∃ cs : List Value, e = .returned (.tuple #[.agg cs.toArray, .bool false]) ∧ cs = [.int .i64 0, .slice none 0 0, .bool false, .slice none 0 0, .slice none 0 0]
   | some T => ∃ cs : List Value, e = .returned (.tuple #[.agg cs.toArray, .bool true]) ∧ Rep (Lo w'.heap.size) w' (treeD T) cs := by
 have hvm : v < 32768 := by simp only [most] at hv; omega
 obtain ⟨sa, sc, hsv⟩ := hs.shape
 refine enter (vs := [.int .i64 (v : Int), sv]) Tryd.func21 rfl Tryd.ntmps21 rfl ?_
 repeat (with_reducible first|apply wc_seq|apply wc_region)
 refine wl_alloc Impl.zv_tree rfl rfl (fun w0 hb0 hg0 hs0 => ?_)
 have hw0 : Below w.heap.size w w0 := below_of hg0 (Nat.le_refl _) (by simp)
 repeat first|(with_reducible first|apply wc_seq|apply wc_region|apply wl_nil|apply qk_thn)|((with_reducible apply ws);exact rfl;exact rfl)
 refine wl_call rfl (by kernel_rfl) rfl ((fn_new w0).mono ?_)
 rintro e w1 ⟨rfl, hb1, hw01⟩
 refine ⟨_, rfl, ?_⟩
 have hz01 := hw01.size
 have hw1 := hw0.trans (hw01.mono (by omega))
 repeat first|(with_reducible first|apply wc_seq|apply wc_region|apply wl_nil|apply qk_thn)|((with_reducible apply ws);exact rfl;exact rfl)
 refine wl_conv .i16 rfl ti_i64 ti_i16 rfl (r := (v : Int)) (be2_ver v hvm) ?_
 rw [d0_hd] at hb1
 refine wl_call rfl (by kernel_rfl) rfl ((fn_set w1 w0.heap.size _ _ (v : Int) hb1).mono ?_)
 rintro e w2 ⟨rfl, hb2, hg2⟩
 refine ⟨_, rfl, ?_⟩
 have hlt := hb1.lt
 have hw12 : Below w0.heap.size w1 w2 := below_of hg2 (by omega) (by intro q hq; simp at hq; omega)
 have hw2 := hw1.trans (hw12.mono (by omega))
 have hs2 := hs.below hw2
 have hz2 := hg2.size
 repeat first|(with_reducible first|apply wc_seq|apply wc_region|apply wl_nil|apply qk_thn)|((with_reducible apply ws);exact rfl;exact rfl)
 refine wl_appSl tb_bytes tb_bytes rfl rfl rfl hs2 (Own.nil w2 w2.heap.size 5) (Nat.le_refl _) (by simp only [List.length_nil, lim]; omega) (fun d3 w3 ho3 hg3 => ?_)
 have hw23 : Below w2.heap.size w2 w3 := hg3.below (Nat.le_refl _) (by simp [Value.ownBlock])
 have hw3 := hw2.trans (hw23.mono (by omega))
 have hb3 := hb2.below hw23 (by omega)
 have hz3 := hw23.size
 have hgl : 1 < w.heap.size := World.block_lt_of_cell? _ _ hg
 have hg3' : w3.cell? ⟨1, 0, none⟩ = some (.iface u x) := by rw [← hg]; simp only [World.cell?, hw3.block _ hgl]
 rw [List.nil_append] at ho3
 obtain ⟨sb, hsb, hsbx, hsrc⟩ := own_src ho3 (by simp only [srcLim]; omega) (by omega) (by omega)
 have hb03 : Box w3 w.heap.size [.int .i64 0, .slice none 0 0, .bool false, .slice none 0 0, .slice none 0 0] 27 := ((hb0.below hw01 (by omega)).below hw12 (by omega)).below hw23 (by omega)
 refine wl_call rfl (by kernel_rfl) rfl ((fn_readT w3 u x d3 w0.heap.size sb v xs hb3 hsrc hsb (by omega) (by omega) hg3' (by omega) (by omega)).mono ?_)
 rintro e w4 ⟨hc4, h4⟩
 have hw34 : Below w0.heap.size w3 w4 := chg_below hc4 (fun j hj h => by rcases h with h | h <;> omega) (by omega)
 have hw4 := hw3.trans (hw34.mono (by omega))
 have hz4 := hw34.size
 have hb04 := hb03.below hw34 (by omega)
 cases o with
 | none =>
  have hR : rdU (.int .i16 (v : Int)) Urv.ld0 xs = none := H
  rw [hR] at h4
  obtain rfl := h4
  refine ⟨_, rfl, ?_⟩
  refine wl_ifNeErr rfl (by kernel_rfl) rfl ?_
  repeat (with_reducible first|apply wl_nil|apply qk_thn)
  refine wc_yes rfl rfl ?_
  repeat (with_reducible first|apply wc_seq|apply wc_region)
  refine wl_build rfl (cs := [.int .i64 0, .slice none 0 0, .bool false, .slice none 0 0, .slice none 0 0]) (by kernel_rfl) rfl ?_
  refine wl_storeBAgg (vs := [.int .i64 0, .slice none 0 0, .bool false, .slice none 0 0, .slice none 0 0]) rfl rfl rfl Impl.tz_tree rfl hb04 rfl (fun w6 hb6 hg6 hs6 => ?_)
  repeat first|(with_reducible first|apply wl_nil|apply qk_thn|apply wc_ret|apply qk_thn_ret)|((with_reducible apply ws);exact rfl;exact rfl)
  have hw46 : Below w.heap.size w4 w6 := below_of hg6 (by omega) (by intro q hq; simp at hq; omega)
  exact qk_retCell2 (cs := [.int .i64 0, .slice none 0 0, .bool false, .slice none 0 0, .slice none 0 0]) rfl rfl Impl.ta_tree hb6 rfl ⟨hw4.trans hw46, _, rfl, rfl⟩
 | some T0 =>
  obtain ⟨d0, rst, ds2, hR, hd0, himp, hT0, _, hun⟩ := H
  rw [hR] at h4
  obtain ⟨rfl, cs4, lo4, hlo4, hb4, hr4⟩ := h4
  refine ⟨_, rfl, ?_⟩
  refine wl_ifNeNil rfl (by kernel_rfl) rfl ?_
  repeat (with_reducible first|apply wl_nil|apply qk_thn)
  refine wc_no rfl rfl ?_
  repeat first|(with_reducible first|apply wc_seq|apply wc_region|apply qk_thn|apply wc_skip)|((with_reducible apply ws);exact rfl;exact rfl)
  simp only [Reps] at hr4
  obtain ⟨c1, c2, rfl, hc1, hr4⟩ := hr4
  have hc1l := Rep.len d0 c1 hc1
  rw [hd0] at hc1l
  have hat : CellsAt w4 w0.heap.size (0 + 1) c2 := by
   have h0 := hb4.cells.right
   rw [hc1l] at h0
   exact h0
  have hr4' : Reps (Lo w4.heap.size) w4 ds2 c2 := Reps.mono (fun j hj => ⟨hj.2, rfl⟩) _ _ (himp _ _ _ hr4)
  have htell := tell_top.2 w4.heap.size w4 w0.heap.size 0 c2 ds2 T0 hat hr4' (by omega) (Nat.le_refl _) hT0
  refine wl_call rfl tell_top.1 rfl (htell.mono ?_)
  rintro e w5 ⟨cs5, T, rfl, hr5, hT5, hc5⟩
  refine ⟨_, rfl, ?_⟩
  have hz5 := hc5.size
  have hw45 : Below w4.heap.size w4 w5 := ⟨hc5.os, hc5.tape, hc5.output, hc5.size, fun j hj => hc5.block j hj (fun h => h)⟩
  have hw5 := hw4.trans (hw45.mono (by omega))
  have hb05 := hb04.below hw45 (by omega)
  obtain ⟨hone, hlen5⟩ := tree_oneG hr5
  refine wl_storeBAgg (vs := cs5) rfl rfl rfl (by rw [hlen5]; exact Impl.tz_tree) hone hb05 (by rw [hlen5]; rfl) (fun w6 hb6 hg6 hs6 => ?_)
  repeat first|(with_reducible first|apply wl_nil|apply qk_thn|apply wc_ret)|((with_reducible apply ws);exact rfl;exact rfl)
  have hw56 : Below w.heap.size w5 w6 := below_of hg6 (by omega) (by intro q hq; simp at hq; omega)
  obtain rfl := hun T hT5
  refine qk_retCell2 rfl rfl (by rw [hlen5]; exact Impl.ta_tree) hb6 rfl ⟨hw5.trans hw56, cs5, rfl, ?_⟩
  exact hr5.up (fun r hr => by have := hr.2; simp only [Lo]; omega) (fun r hr => hg6.block r hr.2 (by rcases hr.1 with h | h; exact absurd h (Nat.not_lt_zero _); simp; omega))
theorem fn_readU (w : World) (u0 : TypeId) (x0 sv : Value) (b sb : Nat) (v : Nat) (xs : List UInt8) (hb : Box w b (cs0 (v : Int)) 98) (hs : SrcAt w sb sv xs) (hsb : sb < w.heap.size) (hne : b ≠ sb) (hb0 : b ≠ 0)
  (hg : w.cell? ⟨1, 0, none⟩ = some (.iface u0 x0)) (hgb : 1 ≠ b) (hgl : 1 < w.heap.size) :
  Calls Tryd.prog 50 #[.pointer (some ⟨b, 0, none⟩), sv] w fun en w' => Chg (fun j => j = b ∨ w.heap.size ≤ j) w w' ∧ match rdU (.int .i16 (v : Int)) Urv.ld0 xs with
   | some x => en = .returned .nilIface ∧ ∃ cs' lo, w.heap.size ≤ lo ∧ Box w' b cs' 98 ∧ Reps (Dk sb lo w') w' x cs'
   | none => en = .returned (.iface u0 x0) := by
 have hr := Urv.fn_readFromU v w u0 x0 sv b sb xs (by rw [← c0_eq]; exact hb) hs hsb hne hb0 hg hgb hgl
 refine enter (vs := [.pointer (some ⟨b, 0, none⟩), sv]) Tryd.func50 rfl Tryd.ntmps50 rfl ?_
 repeat first|(with_reducible first|apply wc_seq|apply wc_region|apply wl_nil|apply qk_thn)|((with_reducible apply ws);exact rfl;exact rfl)
 refine wl_call rfl hr.1 rfl (hr.2.mono ?_)
 rintro en w1 ⟨hc, h⟩
 cases hR : rdU (.int .i16 (v : Int)) Urv.ld0 xs with
 | some x =>
  rw [hR] at h
  obtain ⟨rfl, h⟩ := h
  refine ⟨_, rfl, ?_⟩
  repeat first|(with_reducible first|apply wl_nil|apply qk_thn|apply wc_ret)|((with_reducible apply ws);exact rfl;exact rfl)
  exact qk_ret1 rfl rfl ⟨hc, rfl, h⟩
 | none =>
  rw [hR] at h
  obtain rfl := h
  refine ⟨_, rfl, ?_⟩
  repeat first|(with_reducible first|apply wl_nil|apply qk_thn|apply wc_ret)|((with_reducible apply ws);exact rfl;exact rfl)
  exact qk_ret1 rfl rfl ⟨hc, rfl⟩
set_option maxHeartbeats 4000000 in
theorem fn_doorU (v : Nat) (hv : v ≤ most) (w : World) (u : TypeId) (x sv : Value) (xs : List UInt8) (hxl : xs.length ≤ 1000) (hs : BytesAt w sv xs) (hg : w.cell? ⟨1, 0, none⟩ = some (.iface u x)) (o : Option Tree) (H : Urv.ComesN m.fields (v : Int) Urv.ld0 xs o) :
  Calls Tryd.prog 22 #[.int .i64 (v : Int), sv] w fun e w' => Below w.heap.size w w' ∧ match o with
   | none => ∃ cs : List Value, e = .returned (.tuple #[.agg cs.toArray, .bool false]) ∧ cs = [.int .i64 0, .slice none 0 0, .bool false, .slice none 0 0, .slice none 0 0]
   | some T => ∃ cs : List Value, e = .returned (.tuple #[.agg cs.toArray, .bool true]) ∧ Rep (Lo w'.heap.size) w' (treeD T) cs := by
 have hvm : v < 32768 := by simp only [most] at hv; omega
 obtain ⟨sa, sc, hsv⟩ := hs.shape
 refine enter (vs := [.int .i64 (v : Int), sv]) Tryd.func22 rfl Tryd.ntmps22 rfl ?_
 repeat (with_reducible first|apply wc_seq|apply wc_region)
 refine wl_alloc Impl.zv_tree rfl rfl (fun w0 hb0 hg0 hs0 => ?_)
 have hw0 : Below w.heap.size w w0 := below_of hg0 (Nat.le_refl _) (by simp)
 repeat first|(with_reducible first|apply wc_seq|apply wc_region|apply wl_nil|apply qk_thn)|((with_reducible apply ws);exact rfl;exact rfl)
 refine wl_call rfl (by kernel_rfl) rfl ((fn_new w0).mono ?_)
 rintro e w1 ⟨rfl, hb1, hw01⟩
 refine ⟨_, rfl, ?_⟩
 have hz01 := hw01.size
 have hw1 := hw0.trans (hw01.mono (by omega))
 repeat first|(with_reducible first|apply wc_seq|apply wc_region|apply wl_nil|apply qk_thn)|((with_reducible apply ws);exact rfl;exact rfl)
 refine wl_conv .i16 rfl ti_i64 ti_i16 rfl (r := (v : Int)) (be2_ver v hvm) ?_
 rw [d0_hd] at hb1
 refine wl_call rfl (by kernel_rfl) rfl ((fn_set w1 w0.heap.size _ _ (v : Int) hb1).mono ?_)
 rintro e w2 ⟨rfl, hb2, hg2⟩
 refine ⟨_, rfl, ?_⟩
 have hlt := hb1.lt
 have hw12 : Below w0.heap.size w1 w2 := below_of hg2 (by omega) (by intro q hq; simp at hq; omega)
 have hw2 := hw1.trans (hw12.mono (by omega))
 have hs2 := hs.below hw2
 have hz2 := hg2.size
 repeat first|(with_reducible first|apply wc_seq|apply wc_region|apply wl_nil|apply qk_thn)|((with_reducible apply ws);exact rfl;exact rfl)
 refine wl_appSl tb_bytes tb_bytes rfl rfl rfl hs2 (Own.nil w2 w2.heap.size 5) (Nat.le_refl _) (by simp only [List.length_nil, lim]; omega) (fun d3 w3 ho3 hg3 => ?_)
 have hw23 : Below w2.heap.size w2 w3 := hg3.below (Nat.le_refl _) (by simp [Value.ownBlock])
 have hw3 := hw2.trans (hw23.mono (by omega))
 have hb3 := hb2.below hw23 (by omega)
 have hz3 := hw23.size
 have hgl : 1 < w.heap.size := World.block_lt_of_cell? _ _ hg
 have hg3' : w3.cell? ⟨1, 0, none⟩ = some (.iface u x) := by rw [← hg]; simp only [World.cell?, hw3.block _ hgl]
 rw [List.nil_append] at ho3
 obtain ⟨sb, hsb, hsbx, hsrc⟩ := own_src ho3 (by simp only [srcLim]; omega) (by omega) (by omega)
 have hb03 : Box w3 w.heap.size [.int .i64 0, .slice none 0 0, .bool false, .slice none 0 0, .slice none 0 0] 27 := ((hb0.below hw01 (by omega)).below hw12 (by omega)).below hw23 (by omega)
 refine wl_call rfl (by kernel_rfl) rfl ((fn_readU w3 u x d3 w0.heap.size sb v xs hb3 hsrc hsb (by omega) (by omega) hg3' (by omega) (by omega)).mono ?_)
 rintro e w4 ⟨hc4, h4⟩
 have hw34 : Below w0.heap.size w3 w4 := chg_below hc4 (fun j hj h => by rcases h with h | h <;> omega) (by omega)
 have hw4 := hw3.trans (hw34.mono (by omega))
 have hz4 := hw34.size
 have hb04 := hb03.below hw34 (by omega)
 cases o with
 | none =>
  have hR : rdU (.int .i16 (v : Int)) Urv.ld0 xs = none := H
  rw [hR] at h4
  obtain rfl := h4
  refine ⟨_, rfl, ?_⟩
  refine wl_ifNeErr rfl (by kernel_rfl) rfl ?_
  repeat (with_reducible first|apply wl_nil|apply qk_thn)
  refine wc_yes rfl rfl ?_
  repeat (with_reducible first|apply wc_seq|apply wc_region)
  refine wl_build rfl (cs := [.int .i64 0, .slice none 0 0, .bool false, .slice none 0 0, .slice none 0 0]) (by kernel_rfl) rfl ?_
  refine wl_storeBAgg (vs := [.int .i64 0, .slice none 0 0, .bool false, .slice none 0 0, .slice none 0 0]) rfl rfl rfl Impl.tz_tree rfl hb04 rfl (fun w6 hb6 hg6 hs6 => ?_)
  repeat first|(with_reducible first|apply wl_nil|apply qk_thn|apply wc_ret|apply qk_thn_ret)|((with_reducible apply ws);exact rfl;exact rfl)
  have hw46 : Below w.heap.size w4 w6 := below_of hg6 (by omega) (by intro q hq; simp at hq; omega)
  exact qk_retCell2 (cs := [.int .i64 0, .slice none 0 0, .bool false, .slice none 0 0, .slice none 0 0]) rfl rfl Impl.ta_tree hb6 rfl ⟨hw4.trans hw46, _, rfl, rfl⟩
 | some T0 =>
  obtain ⟨d0, rst, ds2, hR, hd0, himp, hT0, _, hun⟩ := H
  rw [hR] at h4
  obtain ⟨rfl, cs4, lo4, hlo4, hb4, hr4⟩ := h4
  refine ⟨_, rfl, ?_⟩
  refine wl_ifNeNil rfl (by kernel_rfl) rfl ?_
  repeat (with_reducible first|apply wl_nil|apply qk_thn)
  refine wc_no rfl rfl ?_
  repeat first|(with_reducible first|apply wc_seq|apply wc_region|apply qk_thn|apply wc_skip)|((with_reducible apply ws);exact rfl;exact rfl)
  simp only [Reps] at hr4
  obtain ⟨c1, c2, rfl, hc1, hr4⟩ := hr4
  have hc1l := Rep.len d0 c1 hc1
  rw [hd0] at hc1l
  have hat : CellsAt w4 w0.heap.size (0 + 1) c2 := by
   have h0 := hb4.cells.right
   rw [hc1l] at h0
   exact h0
  have hr4' : Reps (Lo w4.heap.size) w4 ds2 c2 := Reps.mono (fun j hj => ⟨hj.2, rfl⟩) _ _ (himp _ _ _ hr4)
  have htell := tell_top.2 w4.heap.size w4 w0.heap.size 0 c2 ds2 T0 hat hr4' (by omega) (Nat.le_refl _) hT0
  refine wl_call rfl tell_top.1 rfl (htell.mono ?_)
  rintro e w5 ⟨cs5, T, rfl, hr5, hT5, hc5⟩
  refine ⟨_, rfl, ?_⟩
  have hz5 := hc5.size
  have hw45 : Below w4.heap.size w4 w5 := ⟨hc5.os, hc5.tape, hc5.output, hc5.size, fun j hj => hc5.block j hj (fun h => h)⟩
  have hw5 := hw4.trans (hw45.mono (by omega))
  have hb05 := hb04.below hw45 (by omega)
  obtain ⟨hone, hlen5⟩ := tree_oneG hr5
  refine wl_storeBAgg (vs := cs5) rfl rfl rfl (by rw [hlen5]; exact Impl.tz_tree) hone hb05 (by rw [hlen5]; rfl) (fun w6 hb6 hg6 hs6 => ?_)
  repeat first|(with_reducible first|apply wl_nil|apply qk_thn|apply wc_ret)|((with_reducible apply ws);exact rfl;exact rfl)
  have hw56 : Below w.heap.size w5 w6 := below_of hg6 (by omega) (by intro q hq; simp at hq; omega)
  obtain rfl := hun T hT5
  refine qk_retCell2 rfl rfl (by rw [hlen5]; exact Impl.ta_tree) hb6 rfl ⟨hw5.trans hw56, cs5, rfl, ?_⟩
  exact hr5.up (fun r hr => by have := hr.2; simp only [Lo]; omega) (fun r hr => hg6.block r hr.2 (by rcases hr.1 with h | h; exact absurd h (Nat.not_lt_zero _); simp; omega))
end
end Go.Proofs.YtoncnffdlejbaaaDoor.BUpdateRaftVoterResponse
