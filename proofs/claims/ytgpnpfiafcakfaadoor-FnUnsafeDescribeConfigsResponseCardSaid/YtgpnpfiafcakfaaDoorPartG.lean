/- FnUnsafeDescribeConfigsResponse: the row, and its card, its one listed variable tied to the program's text (the tie is given). Conditions: those of the row, no others. -/
import Derived.Test.YtgpnpfiafcakfaaDoorPartF
import Derived.Test.YtgpnpfiafcakfaaDoorPartA
import Derived.Test.YtgpnpfiafcakfaaDoorPartC
import Derived.Test.YtgpnpfiafcakfaaDoorPartE
import Derived.Test.YtgpnpfiafcakfaaDoorPartD
import Derived.ProofKit
import Derived.OpenShut
import Derived.Test.YtgpnpfiafcakfaaDoorRows
import Derived.Test.YtgpnpfiafcakfaaDoorCards
import Derived.Test.YtgpnpfiafcakfaaDoorTie
import Derived.ChangeSame
import Derived.ChangeVars
import Derived.JoinedOf
import Derived.RowKit
import Derived.RowKitTokens
import Derived.LaidLaws
import Derived.LaidHandle
import Derived.Stop.Joined
import Derived.SevenTiedAt
set_option linter.all false
namespace Go.Proofs.YtgpnpfiafcakfaaDoor
open Go Go.RowKit
section
set_option maxRecDepth 100000
end
end Go.Proofs.YtgpnpfiafcakfaaDoor

namespace Go.Proofs.YtgpnpfiafcakfaaDoor
def tagsW (u : List (Nat × List UInt8)) : Nat := (u.map fun kv => kv.2.length + 1).sum
mutual
def Tree.wt : Tree → Nat
 | .mk _ s _ l u => 1 + s.length + tagsW u + Tree.wts l
def Tree.wts : List Tree → Nat
 | [] => 0
 | t :: l => t.wt + Tree.wts l
end
mutual
def Fld.cost : Fld → Nat
 | .mk _ _ _ _ _ _ _ sub => 60 + ((1 + known sub) * Fld.costs sub + 60)
def Fld.costs : List Fld → Nat
 | [] => 0
 | f :: l => f.cost + 30 + Fld.costs l
end
end Go.Proofs.YtgpnpfiafcakfaaDoor

namespace Go.Proofs.YtgpnpfiafcakfaaDoor
def tagged (tag : Int) (n : Nat) : Nat := if tag < 0 then n else n + n + tag.toNat + 3
def oF (fl : Bool) : Nat := bif fl then 1074069751 else 0
mutual
def Fld.most (fl : Bool) : Fld → Nat
 | .mk kind _ _ _ _ _ of sub =>
  if kind = 11 then 8 + 32767 * (if of = 10 then (1 + known sub) * Fld.mosts fl sub + oF fl else 32783)
  else if kind = 10 then 1 + ((1 + known sub) * Fld.mosts fl sub + oF fl) else 32783
def Fld.mosts (fl : Bool) : List Fld → Nat
 | [] => 0
 | f :: fs => tagged f.tag (f.most fl) + Fld.mosts fl fs
end
mutual
def Fld.price : Fld → Nat
 | .mk _ _ _ _ _ _ _ sub => ((1 + known sub) * Fld.prices sub + 272) + 24 + 9
def Fld.prices : List Fld → Nat
 | [] => 0
 | f :: fs => tagged f.tag f.price + Fld.prices fs
end
end Go.Proofs.YtgpnpfiafcakfaaDoor

namespace Go.Proofs.YtgpnpfiafcakfaaDoor
open Go Go.RowKit
section
set_option maxRecDepth 100000
end
end Go.Proofs.YtgpnpfiafcakfaaDoor

namespace Go.Proofs.YtgpnpfiafcakfaaDoor
open Go Go.RowKit
section
variable {P : Program} {ops : Array Oper} {Q : Exit → Act → World → Prop} {N : Nat} {rest : List Oper} {L : Sl} {w : World} {d : Nat} {ty : TypeId} {pos : String} {aft : Array Edge}
end
end Go.Proofs.YtgpnpfiafcakfaaDoor

namespace Go.Proofs.YtgpnpfiafcakfaaDoor.Rdk
open Go Go.RowKit
set_option maxRecDepth 100000
def TInv (st : Option (List UInt8)) (j : Nat) (u : List (Nat × List UInt8)) (st' : Option (List UInt8)) : Prop := match st with
 | none => st' = none
 | some s => match st' with
  | some s' => tagsP s = tagsR j u s'
  | none => tagsP s = none
theorem tinv_start {st st1 : Option (List UInt8)} {n : Nat} (h : UvRel st n st1) : TInv st n [] st1 := by
 have h2 := h.2
 cases st with
 | none => exact h2
 | some s =>
  simp only [TInv, tagsP] at h2 ⊢
  cases hx : uvarP s with
  | none => rw [hx] at h2; simp only [] at h2; subst h2; rfl
  | some x => rw [hx] at h2; obtain ⟨rfl, rfl⟩ := h2; rfl
theorem tinv_step {st s1 s2 s3 s4 : Option (List UInt8)} {j k l : Nat} {u : List (Nat × List UInt8)} {bs : List UInt8} (h : TInv st (j + 1) u s1) (h1 : UvRel s1 k s2) (h2 : UvRel s2 l s3) (h3 : SpanRel l s3 bs s4) : TInv st j (setTag k bs u) s4 := by
 have e1 := h1.2
 have e2 := h2.2
 cases st with
 | none =>
  simp only [TInv] at h ⊢
  subst h
  simp only [] at e1
  subst e1
  simp only [] at e2
  subst e2
  exact h3
 | some s =>
  cases s1 with
  | none =>
   simp only [TInv] at h
   simp only [] at e1
   subst e1
   simp only [] at e2
   subst e2
   have h4 : s4 = none := h3
   subst h4
   exact h
  | some t1 =>
   simp only [TInv, tagsR] at h
   simp only [] at e1
   cases hx : uvarP t1 with
   | none =>
    rw [hx] at h e1
    simp only [] at e1
    subst e1
    simp only [] at e2
    subst e2
    have h4 : s4 = none := h3
    subst h4
    exact h
   | some x =>
    rw [hx] at h e1
    obtain ⟨rfl, rfl⟩ := e1
    simp only [Option.bind_some] at h e2
    cases hy : uvarP x.2 with
    | none =>
     rw [hy] at h e2
     simp only [] at e2
     subst e2
     have h4 : s4 = none := h3
     subst h4
     exact h
    | some y =>
     rw [hy] at h e2
     obtain ⟨rfl, rfl⟩ := e2
     simp only [Option.bind_some] at h
     simp only [SpanRel, spanP] at h3
     rw [if_neg (by omega), Int.toNat_natCast] at h3
     cases hz : takeN y.1 y.2 with
     | none => rw [hz] at h h3; simp only [] at h3; subst h3; exact h
     | some z => rw [hz] at h h3; obtain ⟨rfl, rfl⟩ := h3; exact h
theorem tinv_end {st st' : Option (List UInt8)} {u : List (Nat × List UInt8)} (h : TInv st 0 u st') : TagRel st u st' := by
 unfold TagRel
 cases st with
 | none => exact h
 | some s =>
  cases st' with
  | none => simp only [TInv] at h; simp only [h]
  | some s' => simp only [TInv, tagsR] at h; simp only [h, and_self]
theorem chg_cut {w w' : World} {rb : Nat} (h : Chg (fun j => j = rb ∨ w.heap.size ≤ j) w w') : Chg (· = rb) w w' := ⟨h.os, h.tape, h.output, h.size, fun k hk hn => h.block k hk (by rintro (e | e); exact hn e; omega)⟩
theorem fn_tags (w : World) (rb sb lo : Nat) (st : Option (List UInt8)) (hr : Rdr w rb sb st) (h1 : rb < lo) (h2 : sb < lo) (h3 : lo ≤ w.heap.size) (h4 : rb ≠ sb) :
  Calls Tryd.prog 42 #[.pointer (some ⟨rb, 0, none⟩)] w fun e w' => ∃ m u st', e = .returned (.agg #[m]) ∧ Chg (· = rb) w w' ∧ Rdr w' rb sb st' ∧ m.oneCell' = true ∧ Rep (Dk sb lo w') w' (tagsK u) [m] ∧ TagRel st u st' := by
 refine enter Tryd.func42 rfl Tryd.ntmps42 rfl ?_
 refine wc_seq (wc_region (wl_alloc zv_tags rfl rfl (fun w1 hb1 hg1 hs1 => wl_nil (qk_thn ?_))))
 refine wc_seq (wc_region (wl_alloc zv_tags rfl rfl (fun w2 hb2 hg2 hs2 => wl_nil (qk_thn ?_))))
 have c1 : Chg (fun _ => False) w w1 := Chg.grown0 hg1
 have c2 : Chg (fun _ => False) w1 w2 := Chg.grown0 hg2
 have hb1' := hb1.chg c2 id
 have hr2 := (hr.chg c1 id id).chg c2 id id
 obtain ⟨B, hB⟩ : ∃ B, B = w.heap.size := ⟨_, rfl⟩
 rw [← hB] at hs1 hb1' h3
 rw [hs1] at hb2
 rw [hs1] at hs2
 refine wc_seq (wc_seq (wc_region ?_))
 refine wt rfl rfl ?_
 refine wl_call rfl (by kernel_rfl) rfl ((fn_ruv w2 rb sb st hr2 h4).mono ?_)
 rintro en w3 ⟨n, st1, rfl, hc3, hr3, hrel⟩
 refine ⟨_, rfl, ?_⟩
 refine wt rfl rfl ?_
 refine wl_nil (qk_thn ?_)
 have hrb1 : ¬ (fun j => j = rb) B := fun e => by have : B = rb := e; omega
 have hrb2 : ¬ (fun j => j = rb) (B + 1) := fun e => by have : B + 1 = rb := e; omega
 have hs3 := hc3.size
 have c03 : Chg (fun j => j = rb ∨ B ≤ j) w w3 := ((c1.trans c2).wide (fun _ h => h.elim)).trans (hc3.wide (fun j hj => .inl hj))
 refine wc_block (wc_loop (α := Nat) (fun j => [(0, .pointer (some ⟨rb, 0, none⟩)), (2, .pointer (some ⟨B, 0, none⟩)), (3, .pointer (some ⟨B + 1, 0, none⟩)), (4, .int .u32 (j : Int))])
  (fun j w' => ∃ st' u m, j < 4294967296 ∧ Chg (fun j => j = rb ∨ B ≤ j) w w' ∧ Rdr w' rb sb st' ∧ Box w' B [.map none] 55 ∧ Box w' (B + 1) [m] 55 ∧ TagsAt w' sb (B + 2) m u ∧ TInv st j u st') (fun j => j) n
  ⟨rfl, by subst hB; rfl, by rw [← hs1]; rfl, rfl, trivial⟩ ⟨st1, [], .map none, hrel.1, c03, hr3, hb1'.chg hc3 hrb1, hb2.chg hc3 hrb2, .inl ⟨rfl, rfl⟩, tinv_start hrel⟩ ?_)
 rintro j w4 ⟨s1, u, m, hj, hc4, hr4, hbA, hbB, htm, hinv⟩
 have hs4 := hc4.size
 have nrb : ∀ r, B + 2 ≤ r → r < w4.heap.size → ¬ (fun j => j = rb) r := fun r h _ e => by have : r = rb := e; omega
 cases j with
 | zero =>
  refine wc_seq (wc_seq (wc_region ?_))
  refine wt rfl rfl ?_
  refine wt rfl rfl ?_
  refine wl_nil (qk_thn (wc_no rfl (by simp) (wc_exit (qk_thn_exit (qk_round_exit (qk_in_exit (qk_thn ?_)))))))
  refine wc_seq (wc_region ?_)
  refine wl_loadBAgg (cs := [m]) rfl ta_tags rfl hbB ?_
  refine wl_storeBAgg (vs := [m]) rfl rfl rfl tz_tags (by
   rcases htm with ⟨rfl, _⟩ | ⟨r, rfl, _⟩ <;> rfl) hbA rfl (fun w5 hb5 hg5 hs5 => ?_)
  refine wl_nil (qk_thn (wc_ret (qk_retCell (cs := [m]) rfl rfl ta_tags hb5 ?_)))
  have hc5 : Chg (· = B) w4 w5 := Chg.grown hg5
  have n5 : ∀ x : Nat, x < B ∨ B < x → ¬ (fun j => j = B) x := fun x h e => by have : x = B := e; omega
  have htm5 := htm.keep hc5 (fun r h _ => n5 r (by omega)) (n5 sb (by omega)) (by omega)
  refine ⟨m, u, s1, rfl, chg_cut (by rw [← hB]; exact hc4.trans (hc5.wide (fun j hj => .inr (by have : j = B := hj; omega)))), hr4.chg hc5 (n5 rb (by omega)) (n5 sb (by omega)), ?_, ?_, tinv_end hinv⟩
  ·rcases htm with ⟨rfl, _⟩ | ⟨r, rfl, _⟩ <;> rfl
  ·rcases htm5 with ⟨rfl, rfl⟩ | ⟨r, rfl, hlo, ht⟩
   ·exact .inl ⟨rfl, rfl⟩
   ·exact ht.rep (by omega) (by have := hc5.size; omega)
 | succ j =>
  refine wc_seq (wc_seq (wc_region ?_))
  refine wt rfl rfl ?_
  refine wt rfl rfl ?_
  refine wl_nil (qk_thn (wc_yes rfl (by simp) (wc_skip (qk_thn ?_))))
  refine wc_seq (wc_block (wc_seq (wc_region ?_)))
  refine wt rfl rfl ?_
  refine wl_call rfl (by kernel_rfl) rfl ((fn_ruv w4 rb sb s1 hr4 h4).mono ?_)
  rintro en w5 ⟨key, s2, rfl, hc5, hr5, hrel5⟩
  refine ⟨_, rfl, ?_⟩
  refine wt rfl rfl ?_
  refine wl_call rfl (by kernel_rfl) rfl ((fn_ruv w5 rb sb s2 hr5 h4).mono ?_)
  rintro en w6 ⟨len, s3, rfl, hc6, hr6, hrel6⟩
  refine ⟨_, rfl, ?_⟩
  refine wt rfl rfl ?_
  refine wt rfl rfl ?_
  refine wl_nil (qk_thn (wc_region ?_))
  refine wt rfl rfl ?_
  refine wt rfl rfl ?_
  refine wt rfl rfl ?_
  have hlen := hrel6.1
  refine wl_conv .i64 (r := (len : Int)) rfl (by kernel_rfl) (by kernel_rfl) rfl (by rw [IntKind.wrap_i64]; omega) ?_
  refine wl_call rfl (by kernel_rfl) rfl ((fn_span w6 rb sb s3 (len : Int) hr6 h4).mono ?_)
  rintro en w7 ⟨v, bs, s4, rfl, hc7, hr7, hsv, _, hspan⟩
  refine ⟨_, rfl, ?_⟩
  have c47 : Chg (· = rb) w4 w7 := hc5.trans (hc6.trans hc7)
  have hs7 := c47.size
  have nB : ∀ x : Nat, B ≤ x → ¬ (fun j => j = rb) x := fun x h e => by have : x = rb := e; omega
  have hb7 := hbB.chg c47 (nB _ (by omega))
  have ht7 := htm.keep c47 nrb (fun e => h4 e.symm) (by omega)
  have hlt : B + 1 < w7.heap.size := hb7.lt
  refine wl_call rfl (by kernel_rfl) rfl ((fn_set w7 (B + 1) sb (B + 2) key v m u _ bs hb7 ht7 hsv (by omega) (by omega) (by omega) (by omega)).mono ?_)
  rintro en w8 ⟨rfl, m', hb8, ht8, hc8⟩
  refine ⟨_, rfl, ?_⟩
  refine wl_nil (qk_in (qk_thn (wc_region ?_)))
  refine wt rfl rfl ?_
  refine wl_sub' (r := (j : Int)) rfl rfl rfl (by rw [IntKind.wrap_u32]; omega) ?_
  refine wt rfl rfl ?_
  have n8 : ∀ x : Nat, x < B + 1 → ¬ (fun j => j = B + 1 ∨ B + 2 ≤ j) x := fun x h e => by have : x = B + 1 ∨ B + 2 ≤ x := e; omega
  refine wl_nil (qk_round j ⟨rfl, rfl, rfl, rfl, trivial⟩ ⟨s4, setTag key bs u, m', by omega, ?_, hr7.chg hc8 (n8 rb (by omega)) (n8 sb (by omega)), (hbA.chg c47 (nB B (by omega))).chg hc8 (n8 B (by omega)), hb8, ht8, tinv_step hinv hrel5 hrel6 hspan⟩ (by omega))
  exact hc4.trans ((c47.wide (fun j hj => .inl hj)).trans (hc8.wide (fun j hj => .inr (by have : j = B + 1 ∨ B + 2 ≤ j := hj; omega))))
end Go.Proofs.YtgpnpfiafcakfaaDoor.Rdk

namespace Go.Proofs.YtgpnpfiafcakfaaDoor.Rdk
open Go Go.RowKit
set_option maxRecDepth 100000
end Go.Proofs.YtgpnpfiafcakfaaDoor.Rdk

namespace Go.Proofs.YtgpnpfiafcakfaaDoor.Rdk
open Go Go.RowKit
theorem allRd_nil {P : Program} : ∀ x ∈ ([] : List (Nat × Rp)), RdC P x.1 x.2 := fun x h => by cases h
theorem allRd_cons {P : Program} {f : Nat} {p : Rp} {l : List (Nat × Rp)} (h : RdC P f p) (hl : ∀ x ∈ l, RdC P x.1 x.2) : ∀ x ∈ (f, p) :: l, RdC P x.1 x.2 := fun x hx => by
 rcases List.mem_cons.1 hx with rfl | hm
 ·exact h
 ·exact hl x hm
theorem allLen_nil {P : Program} : ∀ x ∈ ([] : List (Nat × Bool)), LenC P x.1 x.2 := fun x h => by cases h
theorem allLen_cons {P : Program} {f : Nat} {p : Bool} {l : List (Nat × Bool)} (h : LenC P f p) (hl : ∀ x ∈ l, LenC P x.1 x.2) : ∀ x ∈ (f, p) :: l, LenC P x.1 x.2 := fun x hx => by
 rcases List.mem_cons.1 hx with rfl | hm
 ·exact h
 ·exact hl x hm
theorem rpOf_mem : ∀ {l : List (Nat × Rp)} {f : Nat} {p : Rp}, rpOf l f = some p → (f, p) ∈ l
 | [], _, _, h => by cases h
 | x :: l, f, p, h => by
  simp only [rpOf] at h
  cases hb : Nat.beq x.1 f with
  | true =>
   rw [hb] at h
   simp only [cond_true, Option.some.injEq] at h
   rw [← beq_out hb, ← h]
   exact List.mem_cons_self
  | false => rw [hb] at h; exact List.mem_cons_of_mem _ (rpOf_mem h)
theorem lcOf_mem : ∀ {l : List (Nat × Bool)} {f : Nat} {p : Bool}, lcOf l f = some p → (f, p) ∈ l
 | [], _, _, h => by cases h
 | x :: l, f, p, h => by
  simp only [lcOf] at h
  cases hb : Nat.beq x.1 f with
  | true =>
   rw [hb] at h
   simp only [cond_true, Option.some.injEq] at h
   rw [← beq_out hb, ← h]
   exact List.mem_cons_self
  | false => rw [hb] at h; exact List.mem_cons_of_mem _ (lcOf_mem h)
def krFns : List (Nat × Rp) :=
 (40, .bool) ::
 (34, .i8) ::
 (29, .i16) ::
 (23, .i32) ::
 (38, .str) ::
 (37, .cstr) ::
 (33, .nstr) ::
 (31, .cnstr) ::
 []
def krLens : List (Nat × Bool) :=
 (25, false) ::
 (24, true) ::
 []
theorem krFns_ok : ∀ x ∈ krFns, RdC Tryd.prog x.1 x.2 :=
 allRd_cons rd_bool <|
 allRd_cons rd_Int8 <|
 allRd_cons rd_Int16 <|
 allRd_cons rd_Int32 <|
 allRd_cons rd_String <|
 allRd_cons rd_CompactString <|
 allRd_cons rd_NullableString <|
 allRd_cons rd_CompactNullableString <|
 allRd_nil
theorem krLens_ok : ∀ x ∈ krLens, LenC Tryd.prog x.1 x.2 :=
 allLen_cons len_ArrayLen <|
 allLen_cons len_CompactArrayLen <|
 allLen_nil
def kr : Kr where
 fns := krFns
 lens := krLens
 ok := 26
 comp := 27
 tags := 42
 rty := 71
theorem kr_ok (ev : Value) : KrOk Tryd.prog kr 1 ev where
 rd := fun f p h _ => krFns_ok _ (rpOf_mem h)
 len := fun f c h _ => krLens_ok _ (lcOf_mem h)
 tags := fun _ w rb sb lo st hr h1 h2 h3 h4 => fn_tags w rb sb lo st hr h1 h2 h3 h4
 ok := fun _ w rb sb st hr => fn_ok w rb sb st hr
 comp := fun _ w rb sb st hr hg => fn_complete w rb sb st ev hr hg
theorem kr_ty : KrTy Tryd.prog kr where
 built := fun a n c => by kernel_rfl
 zero := fun w => by kernel_rfl
 size := by kernel_rfl
end Go.Proofs.YtgpnpfiafcakfaaDoor.Rdk

namespace Go.Proofs.YtgpnpfiafcakfaaDoor
open Go Go.RowKit
section
variable {P : Program} {ops : Array Oper} {Q : Exit → Act → World → Prop} {N : Nat} {rest : List Oper} {L : Sl} {w : World} {d : Nat} {ty : TypeId} {pos : String} {aft : Array Edge}
theorem wl_ifNeNil {x : Operand} {t u : TypeId} (hx : ev L x = some .nilIface) (ht : (match P.underlying t with | some (.interface _) => true | _ => false) = true) (hd : Nat.blt d N = true) (h : WL rest P ops Q N ((d, .bool false) :: L) w) :
  WL (⟨some d, .binOp .neq t x (.const .nilIface) u, ty, pos, aft, none⟩ :: rest) P ops Q N L w := by
 intro a k
 split at ht
 ·rename_i ms hu
  refine st_of (o := ⟨some d, .binOp .neq t x (.const .nilIface) u, ty, pos, aft, none⟩) (v := .bool false) (w' := w) rfl ?_ (h _ (k.put _ hd))
  simp only [execOp, k.eval hx, eval_const]
  have h : ∀ d : Nat, (Op.equalIn (d + 1) t .nilIface .nilIface).run P w = .ok true w := fun d => by
   simp [Op.equalIn, run_underlying hu]
  simp only [eqGuard, binOp]
  simp [Op.equal, Op.maxDepth, h 9999]
 ·cases ht
end
theorem own_src {w : World} {B u8 : Nat} {d : Value} {s : List UInt8} (h : Own w B u8 d s) (hl : s.length ≤ srcLim) (hx : 0 < B) (hw : 0 < w.heap.size) : ∃ sb, sb < w.heap.size ∧ (sb = 0 ∨ B ≤ sb) ∧ SrcAt w sb d s := by
 obtain ⟨hxl, ⟨rfl, h0⟩ | ⟨g, cap, cur, rfl, hBg, hheap, hle, hcap, hcs, htake⟩⟩ := id h
 ·exact ⟨0, hw, .inl rfl, hl, .inl ⟨rfl, List.length_eq_zero_iff.1 h0, rfl⟩⟩
 ·refine ⟨g, (Array.getElem?_eq_some_iff.1 hheap).1, .inr hBg, hl, .inr ⟨0, cap, rfl, hle, ⟨cur, _, _, hheap, ?_, ?_⟩, by omega⟩⟩
  ·rw [bv_length]; omega
  ·intro i v hv
   rw [Nat.zero_add]
   rw [← htake, List.getElem?_take] at hv
   split at hv
   ·simpa using hv
   ·cases hv
theorem chg_below {S : Nat → Prop} {B : Nat} {w w' : World} (h : Chg S w w') (hS : ∀ j, j < B → ¬ S j) (hB : B ≤ w.heap.size) : Below B w w' := ⟨h.os, h.tape, h.output, h.size, fun k hk => h.block k (by omega) (hS k hk)⟩
theorem be2_ver (n : Nat) (h : n < 32768) : IntKind.i16.wrap (n : Int) = (n : Int) := by
 simp only [IntKind.wrap, IntKind.bits, IntKind.signed]
 simp
 omega
end Go.Proofs.YtgpnpfiafcakfaaDoor

namespace Go.Proofs.YtgpnpfiafcakfaaDoor
open Go Go.RowKit
section
set_option maxRecDepth 100000
end
end Go.Proofs.YtgpnpfiafcakfaaDoor

namespace Go.Proofs.YtgpnpfiafcakfaaDoor
open Go Go.RowKit
def PF (f : Fld) (y : Tree) (j : Nat) (v : Value) (w : World) : Prop := match j with
 | 1 => Sq w.heap.size w v ([f].map fldD)
 | 7 => Sq w.heap.size w v ([y].map treeD)
 | 8 => ∃ cs : List Value, v = .agg cs.toArray ∧ Rep (Lo w.heap.size) w (treeD (.mk 0 [] false [y] [])) cs
 | 9 => v = .bool true
 | 10 => v = .bool false
 | _ => True
theorem PF.up {f : Fld} {y : Tree} {j : Nat} {v : Value} {w w' : World} (h : PF f y j v w) (hb : Below w.heap.size w w') : PF f y j v w' := by
 unfold PF at *
 split at h
 ·exact h.below hb hb.size
 ·exact h.below hb hb.size
 ·obtain ⟨cs, rfl, hr⟩ := h; exact ⟨cs, rfl, Rep.below hr hb hb.size⟩
 ·exact h
 ·exact h
 ·trivial
section
set_option maxRecDepth 100000
end
end Go.Proofs.YtgpnpfiafcakfaaDoor

namespace Go.Proofs.YtgpnpfiafcakfaaDoor.Tlk
open Go Go.RowKit
theorem tk_cons {P : Program} {K : Tk} {tg : Bool} (h : TkOk P K tg) {f : Nat} {fs : List Fld} (hf : TlP P f tg fs) : TkOk P ⟨K.tT, K.bool, K.text, K.octs, K.each, K.sorted, K.clos, K.gT, (f, fs) :: K.tells⟩ tg := by
 refine ⟨h.ty, h.bool, h.text, h.octs, fun g gs hg => ?_⟩
 simp only [lkM] at hg
 cases hb : Nat.beq f g with
 | true =>
  rw [hb] at hg
  simp only [cond_true, Option.some.injEq] at hg
  rw [← beq_out hb, ← hg]; exact hf
 | false => rw [hb] at hg; exact h.tells g gs hg
theorem tg_cons {P : Program} {K : Tk} (h : TgOk P K) (f : Nat) (fs : List Fld) : TgOk P ⟨K.tT, K.bool, K.text, K.octs, K.each, K.sorted, K.clos, K.gT, (f, fs) :: K.tells⟩ := ⟨h.each, h.sorted, h.clos⟩
end Go.Proofs.YtgpnpfiafcakfaaDoor.Tlk

namespace Go.Proofs.YtgpnpfiafcakfaaDoor
open Go Go.RowKit
def startSU (q : Hd) (cs : List Value) (ub : Bool) : RS := ⟨[(0, .at_ 0 0), (2, .val (.bool ub)), (q.rs, .val .nilIface), (q.r, .rdr)], [], .no, cs.map some, shDs (litsD cs), true, cs, []⟩
def readFU (P : Program) (K : Kr) (f : Nat) (cs : List Value) (ub : Bool) : Option (List Value × List Ra) := match P.funcs[f]? with
 | some fn => (match fn.body with
  | some c => (match headF K fn.ntmps c with
   | some q => bif isFn P f && resIs fn.results q.rs && Nat.ble 3 fn.ntmps then (match defF P q.f with
    | some l => (match setAll l cs with
     | some cs' => (match runR K P fn.ntmps q.rs 4000 0 [] [] (startSU q cs' ub) q.rest with
      | some (S, _, true) => bif isNo S.pd then some (S.dfl, S.acts) else none
      | _ => none)
     | none => none)
    | none => none) else none
   | none => none)
  | none => none)
 | none => none
section
variable {P : Program} {K : Kr} {g : Nat} {ev : Value} {w : World}
theorem startSU_ok {ub : Bool} {q : Hd} {cs : List Value} {N rb sb b lo : Nat} {e : TypeId} {s : List UInt8} {a : Act} (kn : KnW N rb a [(0, .at_ 0 0), (2, .val (.bool ub)), (q.rs, .val .nilIface), (q.r, .rdr)] [(b, 0)] [] [0]) (hb : Box w b cs e) (hr : Rdr w rb sb (some s))
  (l1 : b < lo) (l2 : rb < lo) (l3 : sb < lo) (l4 : lo ≤ w.heap.size) (n1 : rb ≠ sb) (n2 : b ≠ rb) (n3 : b ≠ sb) (hg : w.cell? ⟨g, 0, none⟩ = some ev) (g1 : g ≠ rb) (g2 : g < lo) (g3 : g ≠ b) :
  RAt N g rb sb ev 0 [] [] (startSU q cs ub) [(b, 0)] [] [0] ⟨b, lo, [], [], cs, e, litsD cs⟩ (some s) (some s) (some s) a w := by
 refine ⟨kn, ⟨rfl, (fun n h v hh => by simp [startSU] at hh)⟩, (fun h v hh => by simp [startSU] at hh), rfl, ⟨rfl, rfl⟩, (fun q rest hq => by cases hq), by simpa using hb, reps_lits _, by simp [startSU], ⟨rfl, ?_⟩, ?_, hr, rfl, fun _ => ⟨rfl, rfl⟩, ⟨rfl, by simp [startSU, rdAs]⟩, ⟨l1, l2, l3, l4⟩, ⟨n1, n2, n3⟩, hg, g1, g2, g3⟩
 ·intro d hd
  simp only [litsD, List.mem_map] at hd
  obtain ⟨u, _, rfl⟩ := hd
  rfl
 ·intro j u hj
  simp only [startSU, List.getElem?_map, Option.map_eq_some_iff] at hj
  obtain ⟨u', hu, he⟩ := hj
  cases he
  exact hu
theorem readFU_ok (hK : KrOk P K g ev) (hT : KrTy P K) {f : Nat} {ub : Bool} {cs dfl : List Value} {acts : List Ra} (h : readFU P K f cs ub = some (dfl, acts)) {b sb : Nat} {e : TypeId} {v : Value} {s : List UInt8} (hb : Box w b cs e) (hv : SrcAt w sb v s) (hsb : sb < w.heap.size) (hne : b ≠ sb)
  (hg : w.cell? ⟨g, 0, none⟩ = some ev) (hgb : g ≠ b) (hgl : g < w.heap.size) :
  isFn P f = true ∧ Calls P f #[.pointer (some ⟨b, 0, none⟩), v, .bool ub] w fun en w' => Chg (fun j => j = b ∨ w.heap.size ≤ j) w w' ∧ match rdAs acts (litsD dfl) s with
   | some x => en = .returned .nilIface ∧ ∃ cs' lo, w.heap.size ≤ lo ∧ Box w' b cs' e ∧ Reps (Dk sb lo w') w' x.1 cs' ∧ shDs x.1 = shDs (litsD dfl)
   | none => en = .returned ev := by
 unfold readFU at h
 split at h
 ·rename_i fn hfn
  split at h
  ·rename_i c hbody
   split at h
   ·rename_i q hq
    cases hc : isFn P f && resIs fn.results q.rs && Nat.ble 3 fn.ntmps with
    | false => rw [hc] at h; cases h
    | true =>
     rw [hc] at h
     simp only [cond_true] at h
     simp only [Bool.and_eq_true] at hc
     obtain ⟨⟨hf, hres⟩, hn⟩ := hc
     have hres := resIs_out hres
     have hn3 : 3 ≤ fn.ntmps := Nat.le_of_ble_eq_true hn
     split at h
     ·rename_i l hl
      split at h
      ·rename_i cs1 hset
       split at h
       ·rename_i S zs hrun
        cases hno : isNo S.pd with
        | false => rw [hno] at h; cases h
        | true =>
        rw [hno] at h
        simp only [cond_true, Option.some.injEq, Prod.mk.injEq] at h
        obtain ⟨h1, h2⟩ := h
        have hnp := isNo_out hno
        obtain ⟨i1, i2, i3, ats, t1, t2, t3, t4, t5, t6, t7, p1, p2, p3, p4, p5, p6, p7, f1, f2, f3, f4, f5, f6, f7, rfl, hlt, hdis⟩ := headF_out hq
        simp only [List.mem_cons, List.not_mem_nil, or_false, forall_eq_or_imp, forall_eq] at hlt
        obtain ⟨b1, b2, b3, b4, b5, b6⟩ := hlt
        have hd := distinct_out hdis
        simp only [List.pairwise_cons, List.mem_cons, List.not_mem_nil, or_false, forall_eq_or_imp, forall_eq] at hd
        obtain ⟨⟨_, _, d03, d04, d05, d06, d07, d08⟩, ⟨_, d13, d14, d15, d16, d17, d18⟩, ⟨d23, d24, d25, d26, d27, d28⟩, ⟨d34, d35, d36, d37, d38⟩, ⟨d45, d46, d47, d48⟩, ⟨d56, d57, d58⟩, ⟨d67, d68⟩, d78, _⟩ := hd
        refine ⟨hf, calls_of_wp hfn hbody ?_⟩
        refine start_act (N := fn.ntmps) (v0 := .pointer (some ⟨b, 0, none⟩)) (v1 := v) (v2 := .bool ub) ?_ ?_
        ·refine ⟨by simp; omega, rfl, ?_, ?_, ?_⟩ <;>
         ·simp only [gt, Array.getD_eq_getD_getElem?]
          rw [Array.getElem?_append_left (by simp)]; rfl
        intro a0 z
        obtain ⟨z0, z1, z2, z3, z4⟩ := z
        have le_of : ∀ {t : Nat}, Nat.blt t fn.ntmps = true → t < fn.ntmps := fun h => Nat.le_of_ble_eq_true h
        refine wp_seq (wp_region_lit (st_assign ?_))
        show wpList P _ _ [] (a0.put (some q.rs) .nilIface) w
        obtain ⟨a1, ha1⟩ : ∃ a1 : Act, a1 = a0.put (some q.rs) .nilIface := ⟨_, rfl⟩
        rw [← ha1]
        have z' : a1.tmps.size = fn.ntmps ∧ a1.defers = [] ∧ gt a1 0 = .pointer (some ⟨b, 0, none⟩) ∧ gt a1 1 = v ∧ gt a1 2 = .bool ub ∧ gt a1 q.rs = .nilIface := by
         subst ha1
         exact ⟨by rw [put_size]; exact z0, by rw [put_defers]; exact z1, by rw [gt_put_ne _ _ _ _ d03]; exact z2, by rw [gt_put_ne _ _ _ _ d13]; exact z3, by rw [gt_put_ne _ _ _ _ d23]; exact z4, gt_put_same _ _ _ (by rw [z0]; exact le_of b1)⟩
        clear ha1 z0 z1 z2 z3 z4
        obtain ⟨z0, z1, z2, z3, z4, z5⟩ := z'
        refine wp_seq (wp_region_lit (st_move ?_))
        rw [eval_tmp, z2]
        obtain ⟨a2, ha2⟩ : ∃ a2 : Act, a2 = a1.put (some q.x) (.pointer (some ⟨b, 0, none⟩)) := ⟨_, rfl⟩
        rw [← ha2]
        have z' : a2.tmps.size = fn.ntmps ∧ a2.defers = [] ∧ gt a2 0 = .pointer (some ⟨b, 0, none⟩) ∧ gt a2 1 = v ∧ gt a2 2 = .bool ub ∧ gt a2 q.rs = .nilIface ∧ gt a2 q.x = .pointer (some ⟨b, 0, none⟩) := by
         subst ha2
         exact ⟨by rw [put_size]; exact z0, by rw [put_defers]; exact z1, by rw [gt_put_ne _ _ _ _ d04]; exact z2, by rw [gt_put_ne _ _ _ _ d14]; exact z3, by rw [gt_put_ne _ _ _ _ d24]; exact z4, by rw [gt_put_ne _ _ _ _ d34]; exact z5, gt_put_same _ _ _ (by rw [z0]; exact le_of b2)⟩
        clear ha2 z0 z1 z2 z3 z4 z5
        obtain ⟨z0, z1, z2, z3, z4, z5, z6⟩ := z'
        have hdef := defF_ok (w := w) hl (b := b) (pre := []) (cs := cs) (post := []) (e := e) (by simpa using hb) hset
        refine st_call hdef.1 ?_
        have ea : (#[.tmp q.x] : Array Operand).map a2.eval = #[.pointer (some ⟨b, 0, none⟩)] := by simp only [List.map_toArray, List.map_cons, List.map_nil, eval_tmp, z6]
        rw [ea]
        refine hdef.2.mono (fun en w1 he => ?_)
        obtain ⟨rfl, hb1, hc1⟩ := he
        refine ⟨_, rfl, ?_⟩
        show Code.wp P _ _ _ _
        obtain ⟨a3, ha3⟩ : ∃ a3 : Act, a3 = a2.put (some q.y) (.tuple #[]) := ⟨_, rfl⟩
        rw [← ha3]
        have z' : a3.tmps.size = fn.ntmps ∧ a3.defers = [] ∧ gt a3 0 = .pointer (some ⟨b, 0, none⟩) ∧ gt a3 1 = v ∧ gt a3 2 = .bool ub ∧ gt a3 q.rs = .nilIface := by
         subst ha3
         exact ⟨by rw [put_size]; exact z0, by rw [put_defers]; exact z1, by rw [gt_put_ne _ _ _ _ d05]; exact z2, by rw [gt_put_ne _ _ _ _ d15]; exact z3, by rw [gt_put_ne _ _ _ _ d25]; exact z4, by rw [gt_put_ne _ _ _ _ d35]; exact z5⟩
        clear ha3 z0 z1 z2 z3 z4 z5 z6
        obtain ⟨z0, z1, z2, z3, z4, z5⟩ := z'
        obtain ⟨aa, nn, cc, hvs⟩ : ∃ aa nn cc, v = .slice aa nn cc := by
         rcases hv.2 with ⟨rfl, _⟩ | ⟨o, c, rfl, _⟩
         ·exact ⟨_, _, _, rfl⟩
         ·exact ⟨_, _, _, rfl⟩
        refine wp_seq (wp_region_lit (st_move ?_))
        rw [eval_tmp, z3]
        obtain ⟨a4, ha4⟩ : ∃ a4 : Act, a4 = a3.put (some q.u) v := ⟨_, rfl⟩
        rw [← ha4]
        have z' : a4.tmps.size = fn.ntmps ∧ a4.defers = [] ∧ gt a4 0 = .pointer (some ⟨b, 0, none⟩) ∧ gt a4 2 = .bool ub ∧ gt a4 q.rs = .nilIface ∧ gt a4 q.u = v := by
         subst ha4
         exact ⟨by rw [put_size]; exact z0, by rw [put_defers]; exact z1, by rw [gt_put_ne _ _ _ _ d06]; exact z2, by rw [gt_put_ne _ _ _ _ d26]; exact z4, by rw [gt_put_ne _ _ _ _ d36]; exact z5, gt_put_same _ _ _ (by rw [z0]; exact le_of b4)⟩
        clear ha4 z0 z1 z2 z3 z4 z5
        obtain ⟨z0, z1, z2, z4, z5, z6⟩ := z'
        have hbuilt := run_build (P := P) w1 K.rty (#[(0, .tmp q.u)].map fun x => (x.1, a4.eval x.2)) #[v, .bool false] (by
         simp only [List.map_toArray, List.map_cons, List.map_nil, eval_tmp, z6]
         rw [hvs]; exact hT.built aa nn cc)
        refine st_of (o := ⟨some q.b, .build K.rty #[(0, .tmp q.u)], t5, p5, f5, none⟩) (v := .agg #[v, .bool false]) (w' := w1) rfl (by simp only [execOp, Sem.run_bind, hbuilt, Result.andThen_ok, Sem.run_pure]) ?_
        obtain ⟨a5, ha5⟩ : ∃ a5 : Act, a5 = a4.put (some q.b) (.agg #[v, .bool false]) := ⟨_, rfl⟩
        show wpList P _ _ _ (a4.put (some q.b) (.agg #[v, .bool false])) w1
        rw [← ha5]
        have z' : a5.tmps.size = fn.ntmps ∧ a5.defers = [] ∧ gt a5 0 = .pointer (some ⟨b, 0, none⟩) ∧ gt a5 2 = .bool ub ∧ gt a5 q.rs = .nilIface ∧ gt a5 q.b = .agg #[v, .bool false] := by
         subst ha5
         exact ⟨by rw [put_size]; exact z0, by rw [put_defers]; exact z1, by rw [gt_put_ne _ _ _ _ d07]; exact z2, by rw [gt_put_ne _ _ _ _ d27]; exact z4, by rw [gt_put_ne _ _ _ _ d37]; exact z5, gt_put_same _ _ _ (by rw [z0]; exact le_of b5)⟩
        clear ha5 z0 z1 z2 z4 z5 z6
        obtain ⟨z0, z1, z2, z4, z5, z6⟩ := z'
        refine st_of (o := ⟨some q.r, .alloc K.rty, t6, p6, f6, none⟩) (v := .pointer (some ⟨w1.heap.size, 0, none⟩)) (w' := w1.alloc (.cells #[.slice none 0 0, .bool false] K.rty)) rfl (by simp [execOp, Instr.alloc, hT.zero, newVar, newRow, Value.cells]) ?_
        obtain ⟨a6, ha6⟩ : ∃ a6 : Act, a6 = a5.put (some q.r) (.pointer (some ⟨w1.heap.size, 0, none⟩)) := ⟨_, rfl⟩
        show wpList P _ _ _ (a5.put (some q.r) (.pointer (some ⟨w1.heap.size, 0, none⟩))) _
        rw [← ha6]
        have z' : a6.tmps.size = fn.ntmps ∧ a6.defers = [] ∧ gt a6 0 = .pointer (some ⟨b, 0, none⟩) ∧ gt a6 2 = .bool ub ∧ gt a6 q.rs = .nilIface ∧ gt a6 q.b = .agg #[v, .bool false] ∧ gt a6 q.r = .pointer (some ⟨w1.heap.size, 0, none⟩) := by
         subst ha6
         exact ⟨by rw [put_size]; exact z0, by rw [put_defers]; exact z1, by rw [gt_put_ne _ _ _ _ d08]; exact z2, by rw [gt_put_ne _ _ _ _ d28]; exact z4, by rw [gt_put_ne _ _ _ _ d38]; exact z5, by rw [gt_put_ne _ _ _ _ d78]; exact z6, gt_put_same _ _ _ (by rw [z0]; exact le_of b6)⟩
        clear ha6 z0 z1 z2 z4 z5 z6
        obtain ⟨z0, z1, z2, z4, z5, z6, z7⟩ := z'
        have hbx : Box (w1.alloc (.cells #[.slice none 0 0, .bool false] K.rty)) w1.heap.size [.slice none 0 0, .bool false] K.rty := box_alloc w1 _ _
        have hal : Chg (fun _ => False) w1 (w1.alloc (.cells #[.slice none 0 0, .bool false] K.rty)) := chg_alloc w1 _ _
        have hsz2 : (w1.alloc (.cells #[.slice none 0 0, .bool false] K.rty)).heap.size = w1.heap.size + 1 := by simp
        generalize w1.alloc (.cells #[.slice none 0 0, .bool false] K.rty) = w2 at hbx hal hsz2 ⊢
        refine st_storeSeg (b := w1.heap.size) (off := 0) (A := []) (C := []) (seg := [.slice none 0 0, .bool false]) (vs := [v, .bool false]) (by rw [eval_tmp, z7]) (by rw [eval_tmp, z6]) (by simp [Value.cells]) hT.size (by rw [hvs]; rfl) (by simpa using hbx) rfl rfl (fun w3 hb3 hg3 => ?_)
        have hc3 : Chg (· = w1.heap.size) w2 w3 := Chg.grown hg3
        have hsz := hc1.size
        have hbsz := hb.lt
        have cc : Chg (fun j => j = b ∨ j = w1.heap.size) w w3 := (hc1.wide (fun j hj => .inl hj)).trans ((hal.wide (fun j hj => hj.elim)).trans (hc3.wide (fun j hj => .inr hj)))
        have hb3' : Box w3 w1.heap.size [v, .bool false] K.rty := by simpa using hb3
        have hbb : Box w3 b cs1 e := ((by simpa using hb1 : Box w1 b cs1 e).chg hal id).chg hc3 (by omega)
        have hrdr : Rdr w3 w1.heap.size sb (some s) := by
         refine ⟨v, K.rty, hb3', hv.1, ?_, fun hz => ?_⟩
         ·rcases hv.2 with h | ⟨o, c, e1, e2, e3, e4⟩
          ·exact .inl ⟨h.1, h.2.1⟩
          ·exact .inr ⟨o, c, e1, e2, e3.chg cc (by rintro (h | h); exact hne h.symm; omega), e4⟩
         ·rcases hv.2 with h | ⟨o, c, e1, e2, e3, e4⟩
          ·exact absurd h.2.2 hz
          ·rw [e1]; simp
        have hgg : w3.cell? ⟨g, 0, none⟩ = some ev := by
         have hg3' : w3.heap[g]? = w.heap[g]? := cc.block g hgl (by rintro (h | h); exact hgb h; omega)
         simp only [World.cell?] at hg ⊢
         rw [hg3']; exact hg
        have kn : KnW fn.ntmps w1.heap.size (a6.put none undef) [(0, .at_ 0 0), (2, .val (.bool ub)), (q.rs, .val .nilIface), (q.r, .rdr)] [(b, 0)] [] [0] := by
         refine ⟨z0, z1, fun t x e => ?_⟩
         have e' := lkW_mem e
         simp only [List.mem_cons, List.not_mem_nil, or_false, Prod.mk.injEq] at e'
         show _ = some (gt a6 t)
         rcases e' with ⟨rfl, rfl⟩ | ⟨rfl, rfl⟩ | ⟨rfl, rfl⟩ | ⟨rfl, rfl⟩
         ·rw [z2]; rfl
         ·rw [z4]; rfl
         ·rw [z5]; rfl
         ·rw [z7]; rfl
        have hst := startSU_ok (g := g) (ev := ev) (lo := w1.heap.size + 1) kn hbb hrdr (by omega) (by omega) (by omega) (by have := hc3.size; omega) (by omega) (by omega) hne hgg (by omega) (by omega) hgb
        have hs3 := hc3.size
        refine runR_ok hK _ _ _ _ _ _ _ _ _ hrun _ _ _ _ _ _ _ _ _ _ hst ?_ ?_
        ·intro R' it' st0' st' a' w' f H' hr
         obtain ⟨hpd, hrs⟩ := hr rfl
         have hp := H'.pd
         rw [hpd] at hp
         have hp' : st' = st0' := hp
         subst hp'
         have hrel := H'.rel
         rw [h1, h2] at hrel
         obtain ⟨hsh, hrel⟩ := hrel
         simp only [] at hrel
         have hchg : Chg (fun j => j = b ∨ w.heap.size ≤ j) w w' := (cc.wide (fun j hj => by rcases hj with h | h; exact .inl h; exact .inr (by omega))).trans (f.chg.wide (fun j hj => by simp only [] at hj; rcases hj with h | h | h; exact .inr (by omega); exact .inl h; exact .inr (by omega)))
         cases hs : rdAs acts (litsD dfl) s with
         | some x =>
          rw [hs] at hrel
          obtain ⟨hst', hds⟩ := hrel
          refine ⟨H'.kn.defers, .nilIface, ?_, hchg, rfl, it'.cs, w1.heap.size + 1, by omega, ?_, ?_, ?_⟩
          ·rw [results_tmp hres]
           have : gt a' q.rs = .nilIface := by rw [hrs, hst']; rfl
           simp only [gt] at this
           rw [this]
          ·have := H'.box
           rw [f.b, f.pre, f.post, f.e] at this
           simpa using this
          ·have := H'.ds
           rw [hds, f.lo] at this
           exact this
          ·rw [← hds]; exact hsh
         | none =>
          rw [hs] at hrel
          refine ⟨H'.kn.defers, ev, ?_, hchg, rfl⟩
          rw [results_tmp hres]
          have hrel' : st' = none := hrel
          have : gt a' q.rs = ev := by rw [hrs, hrel']; rfl
          simp only [gt] at this
          rw [this]
        ·intro a' w' hB hF
         have := hF s rfl
         unfold Fails at this
         have hn : rdAs acts (litsD dfl) s = none := by
          cases hs : rdAs acts (litsD dfl) s with
          | none => rfl
          | some x =>
           have h3 := this x (by rw [h1, h2]; exact hs)
           rw [hnp] at h3
           exact h3.elim
         obtain ⟨k1, k2, k3, _, _⟩ := hB
         refine ⟨k1, ev, ?_, ?_, ?_⟩
         ·rw [results_tmp hres]
          simp only [gt] at k2
          rw [k2]
         ·exact (cc.wide (fun j hj => by rcases hj with h | h; exact .inl h; exact .inr (by omega))).trans (k3.wide (fun j hj => by simp only [] at hj; rcases hj with h | h | h; exact .inr (by omega); exact .inl h; exact .inr (by omega)))
         ·rw [hn]
       ·cases h
      ·cases h
     ·cases h
   ·cases h
  ·cases h
 ·cases h
end
end Go.Proofs.YtgpnpfiafcakfaaDoor

namespace Go.Proofs.YtgpnpfiafcakfaaDoor.Rdk
open Go Go.RowKit
set_option maxRecDepth 100000
theorem fn_ustr {w : World} {sb : Nat} {v : Value} {bs : List UInt8} (hv : SrcV w sb v bs) : Calls Tryd.prog 51 #[v] w fun e w' => e = .returned (strV bs) ∧ w' = w := by
 refine enter (vs := [v]) Tryd.func51 rfl Tryd.ntmps51 rfl ?_
 refine wc_seq (wc_region (wl_assign rfl rfl (wl_nil (qk_thn ?_))))
 refine wc_seq (wc_region ?_)
 refine ws rfl rfl ?_
 refine wl_toStr (sb := sb) (bs := bs) rfl hv bytes_ty str_ty rfl ?_
 refine ws rfl rfl ?_
 exact wl_nil (qk_thn (wc_ret (qk_ret1 rfl rfl ⟨rfl, rfl⟩)))
theorem rd_UnsafeString : RdC Tryd.prog 36 .str := by
 intro w rb sb lo st hr h1 h2 h3 h4
 refine enter Tryd.func36 rfl Tryd.ntmps36 rfl ?_
 refine wc_seq (wc_region (wl_assign rfl rfl (wl_nil (qk_thn ?_))))
 refine wc_seq (wc_region ?_)
 refine ws rfl rfl ?_
 refine wl_call rfl (by kernel_rfl) rfl ((int_of_rd rd_Int16 .i16 2 (fun s => rfl) rfl w rb sb lo st hr h1 h2 h3 h4).mono ?_)
 rintro en w1 ⟨m, st1, rfl, hwr, hc1, hr1, hrel⟩
 refine ⟨_, rfl, ?_⟩
 refine ws rfl rfl ?_
 refine wl_nil (qk_thn ?_)
 have hs1 := hc1.size
 have hcnt : CntRel false .i16 2 st m st1 := cnt_i hrel
 have hrange : IntKind.i64.wrap m = m := by rw [wrap_i16] at hwr; rw [IntKind.wrap_i64]; omega
 refine wc_seq (wc_region ?_)
 refine ws rfl rfl ?_
 refine ws rfl rfl ?_
 refine wl_conv .i64 rfl (by kernel_rfl) (by kernel_rfl) rfl hrange ?_
 refine wl_call rfl (by kernel_rfl) rfl ((fn_span w1 rb sb st1 (m) hr1 h4).mono ?_)
 rintro en w2 ⟨v, s1, st2, rfl, hc2, hr2, hsv, hlim, hspan⟩
 refine ⟨_, rfl, ?_⟩
 refine wl_call rfl (by kernel_rfl) rfl ((fn_ustr hsv).mono ?_)
 rintro en w2u ⟨rfl, hu⟩
 obtain rfl : w2 = w2u := hu.symm
 refine ⟨_, rfl, ?_⟩
 have hs2 := hc2.size
 refine ws rfl rfl ?_
 refine wl_nil (qk_thn (wc_ret (qk_ret1 rfl rfl ?_)))
 refine ⟨strV s1, [.lit (strV s1)], st2, rfl, hc1.trans hc2, hr2, reps_lits [_], rfl, fun _ => rfl, ?_⟩
 exact str_rel (c := false) (span_rel hcnt hspan)
theorem rd_UnsafeCompactString : RdC Tryd.prog 35 .cstr := by
 intro w rb sb lo st hr h1 h2 h3 h4
 refine enter Tryd.func35 rfl Tryd.ntmps35 rfl ?_
 refine wc_seq (wc_region (wl_assign rfl rfl (wl_nil (qk_thn ?_))))
 refine wc_seq (wc_region ?_)
 refine ws rfl rfl ?_
 refine wl_call rfl (by kernel_rfl) rfl ((fn_ruv w rb sb st hr h4).mono ?_)
 rintro en w1 ⟨u, st1, rfl, hc1, hr1, hrel⟩
 refine ⟨_, rfl, ?_⟩
 have hul := hrel.1
 refine wl_conv .i64 (r := (u : Int)) rfl (by kernel_rfl) (by kernel_rfl) rfl (by rw [IntKind.wrap_i64]; omega) ?_
 refine wl_sub' (r := (u : Int) - 1) rfl rfl rfl (by rw [IntKind.wrap_i64]; omega) ?_
 refine ws rfl rfl ?_
 refine wl_nil (qk_thn ?_)
 have hs1 := hc1.size
 have hcnt : CntRel true .i16 2 st ((u : Int) - 1) st1 := cnt_u hrel
 refine wc_seq (wc_region ?_)
 refine ws rfl rfl ?_
 refine ws rfl rfl ?_
 refine wl_call rfl (by kernel_rfl) rfl ((fn_span w1 rb sb st1 ((u : Int) - 1) hr1 h4).mono ?_)
 rintro en w2 ⟨v, s1, st2, rfl, hc2, hr2, hsv, hlim, hspan⟩
 refine ⟨_, rfl, ?_⟩
 refine wl_call rfl (by kernel_rfl) rfl ((fn_ustr hsv).mono ?_)
 rintro en w2u ⟨rfl, hu⟩
 obtain rfl : w2 = w2u := hu.symm
 refine ⟨_, rfl, ?_⟩
 have hs2 := hc2.size
 refine ws rfl rfl ?_
 refine wl_nil (qk_thn (wc_ret (qk_ret1 rfl rfl ?_)))
 refine ⟨strV s1, [.lit (strV s1)], st2, rfl, hc1.trans hc2, hr2, reps_lits [_], rfl, fun _ => rfl, ?_⟩
 exact str_rel (c := true) (span_rel hcnt hspan)
theorem rd_UnsafeNullableString : RdC Tryd.prog 32 .nstr := by
 intro w rb sb lo st hr h1 h2 h3 h4
 refine enter Tryd.func32 rfl Tryd.ntmps32 rfl ?_
 refine wc_seq (wc_region (wl_assign rfl rfl (wl_nil (qk_thn ?_))))
 refine wc_seq (wc_region ?_)
 refine ws rfl rfl ?_
 refine wl_call rfl (by kernel_rfl) rfl ((int_of_rd rd_Int16 .i16 2 (fun s => rfl) rfl w rb sb lo st hr h1 h2 h3 h4).mono ?_)
 rintro en w1 ⟨m, st1, rfl, hwr, hc1, hr1, hrel⟩
 refine ⟨_, rfl, ?_⟩
 refine ws rfl rfl ?_
 refine wl_nil (qk_thn ?_)
 have hs1 := hc1.size
 have hcnt : CntRel false .i16 2 st m st1 := cnt_i hrel
 have hrange : IntKind.i64.wrap m = m := by rw [wrap_i16] at hwr; rw [IntKind.wrap_i64]; omega
 refine wc_seq (wc_seq (wc_region ?_))
 refine ws rfl rfl ?_
 refine ws rfl rfl ?_
 refine wl_nil (qk_thn ?_)
 refine wc_cond rfl (fun hc => ?_) (fun hc => ?_)
 ·refine wc_seq (wc_region ?_)
  refine ws rfl rfl ?_
  refine wl_nil (qk_thn (wc_ret (qk_thn_ret (qk_ret1 rfl rfl ?_))))
  have hneg : m < 0 := by simpa using hc
  refine ⟨_, [.lit (.pointer none)], st1, rfl, hc1, hr1, reps_lits [_], rfl, fun _ => rfl, ?_⟩
  exact nul_rel (c := false) hcnt hneg
 refine wc_skip (qk_thn ?_)
 have hnn : ¬ m < 0 := by simpa using hc
 refine wc_seq (wc_region ?_)
 refine ws rfl rfl ?_
 refine ws rfl rfl ?_
 refine wl_conv .i64 rfl (by kernel_rfl) (by kernel_rfl) rfl hrange ?_
 refine wl_call rfl (by kernel_rfl) rfl ((fn_span w1 rb sb st1 (m) hr1 h4).mono ?_)
 rintro en w2 ⟨v, s1, st2, rfl, hc2, hr2, hsv, hlim, hspan⟩
 refine ⟨_, rfl, ?_⟩
 refine wl_call rfl (by kernel_rfl) rfl ((fn_ustr hsv).mono ?_)
 rintro en w2u ⟨rfl, hu⟩
 obtain rfl : w2 = w2u := hu.symm
 refine ⟨_, rfl, ?_⟩
 have hs2 := hc2.size
 refine wl_alloc zv_str rfl rfl (fun w3 hb3 hg3 hs3 => ?_)
 refine wl_storeB rfl rfl to_str rfl hb3 rfl (fun w4 hb4 hg4 _ => ?_)
 refine wl_nil (qk_thn (wc_seq (wc_region ?_)))
 refine ws rfl rfl ?_
 refine wl_nil (qk_thn (wc_ret (qk_ret1 rfl rfl ?_)))
 have c3 : Chg (fun _ => False) w2 w3 := Chg.grown0 hg3
 have c4 : Chg (· = w2.heap.size) w3 w4 := Chg.grown hg4
 have hrb := Rdr.box' hr
 have c34 : Chg (· = rb) w2 w4 := new_only c3 c4
 have hsz4 := c4.size
 refine ⟨_, [.ptr (.lit (strV s1))], st2, rfl, (hc1.trans hc2).trans c34, (hr2.chg c3 id id).chg c4 (by omega) (by omega), ?_, rfl, fun _ => rfl, ?_⟩
 ·refine ⟨[_], [], rfl, ⟨w2.heap.size, _, rfl, ⟨.inr (by omega), by omega⟩, hb4.cells, rfl⟩, rfl⟩
 ·exact nstr_rel (c := false) hcnt hnn (span_rel hcnt hspan)
theorem rd_UnsafeCompactNullableString : RdC Tryd.prog 30 .cnstr := by
 intro w rb sb lo st hr h1 h2 h3 h4
 refine enter Tryd.func30 rfl Tryd.ntmps30 rfl ?_
 refine wc_seq (wc_region (wl_assign rfl rfl (wl_nil (qk_thn ?_))))
 refine wc_seq (wc_region ?_)
 refine ws rfl rfl ?_
 refine wl_call rfl (by kernel_rfl) rfl ((fn_ruv w rb sb st hr h4).mono ?_)
 rintro en w1 ⟨u, st1, rfl, hc1, hr1, hrel⟩
 refine ⟨_, rfl, ?_⟩
 have hul := hrel.1
 refine wl_conv .i64 (r := (u : Int)) rfl (by kernel_rfl) (by kernel_rfl) rfl (by rw [IntKind.wrap_i64]; omega) ?_
 refine wl_sub' (r := (u : Int) - 1) rfl rfl rfl (by rw [IntKind.wrap_i64]; omega) ?_
 refine ws rfl rfl ?_
 refine wl_nil (qk_thn ?_)
 have hs1 := hc1.size
 have hcnt : CntRel true .i16 2 st ((u : Int) - 1) st1 := cnt_u hrel
 refine wc_seq (wc_seq (wc_region ?_))
 refine ws rfl rfl ?_
 refine ws rfl rfl ?_
 refine wl_nil (qk_thn ?_)
 refine wc_cond rfl (fun hc => ?_) (fun hc => ?_)
 ·refine wc_seq (wc_region ?_)
  refine ws rfl rfl ?_
  refine wl_nil (qk_thn (wc_ret (qk_thn_ret (qk_ret1 rfl rfl ?_))))
  have hneg : (u : Int) - 1 < 0 := by simpa using hc
  refine ⟨_, [.lit (.pointer none)], st1, rfl, hc1, hr1, reps_lits [_], rfl, fun _ => rfl, ?_⟩
  exact nul_rel (c := true) hcnt hneg
 refine wc_skip (qk_thn ?_)
 have hnn : ¬ (u : Int) - 1 < 0 := by simpa using hc
 refine wc_seq (wc_region ?_)
 refine ws rfl rfl ?_
 refine ws rfl rfl ?_
 refine wl_call rfl (by kernel_rfl) rfl ((fn_span w1 rb sb st1 ((u : Int) - 1) hr1 h4).mono ?_)
 rintro en w2 ⟨v, s1, st2, rfl, hc2, hr2, hsv, hlim, hspan⟩
 refine ⟨_, rfl, ?_⟩
 refine wl_call rfl (by kernel_rfl) rfl ((fn_ustr hsv).mono ?_)
 rintro en w2u ⟨rfl, hu⟩
 obtain rfl : w2 = w2u := hu.symm
 refine ⟨_, rfl, ?_⟩
 have hs2 := hc2.size
 refine wl_alloc zv_str rfl rfl (fun w3 hb3 hg3 hs3 => ?_)
 refine wl_storeB rfl rfl to_str rfl hb3 rfl (fun w4 hb4 hg4 _ => ?_)
 refine wl_nil (qk_thn (wc_seq (wc_region ?_)))
 refine ws rfl rfl ?_
 refine wl_nil (qk_thn (wc_ret (qk_ret1 rfl rfl ?_)))
 have c3 : Chg (fun _ => False) w2 w3 := Chg.grown0 hg3
 have c4 : Chg (· = w2.heap.size) w3 w4 := Chg.grown hg4
 have hrb := Rdr.box' hr
 have c34 : Chg (· = rb) w2 w4 := new_only c3 c4
 have hsz4 := c4.size
 refine ⟨_, [.ptr (.lit (strV s1))], st2, rfl, (hc1.trans hc2).trans c34, (hr2.chg c3 id id).chg c4 (by omega) (by omega), ?_, rfl, fun _ => rfl, ?_⟩
 ·refine ⟨[_], [], rfl, ⟨w2.heap.size, _, rfl, ⟨.inr (by omega), by omega⟩, hb4.cells, rfl⟩, rfl⟩
 ·exact nstr_rel (c := true) hcnt hnn (span_rel hcnt hspan)
def kruFns : List (Nat × Rp) :=
 (36, .str) ::
 (35, .cstr) ::
 (32, .nstr) ::
 (30, .cnstr) ::
 krFns
theorem kruFns_ok : ∀ x ∈ kruFns, RdC Tryd.prog x.1 x.2 :=
 allRd_cons rd_UnsafeString <|
 allRd_cons rd_UnsafeCompactString <|
 allRd_cons rd_UnsafeNullableString <|
 allRd_cons rd_UnsafeCompactNullableString <|
 krFns_ok
def kru : Kr := ⟨kruFns, kr.lens, kr.ok, kr.comp, kr.tags, kr.rty⟩
theorem kru_ok (ev : Value) : KrOk Tryd.prog kru 1 ev :=
 ⟨fun f p h _ => kruFns_ok _ (rpOf_mem h), (kr_ok ev).len, (kr_ok ev).tags, (kr_ok ev).ok, (kr_ok ev).comp⟩
theorem kru_ty : KrTy Tryd.prog kru := ⟨kr_ty.built, kr_ty.zero, kr_ty.size⟩
end Go.Proofs.YtgpnpfiafcakfaaDoor.Rdk

namespace Go.Proofs.YtgpnpfiafcakfaaDoor
open Go Go.RowKit
inductive CT where
 | b | oc | n (k : IntKind) | s | os | row (st : Bool) (e : List CT) | tg
def isU8s : Nat → List CT → Bool
 | 0, _ => true
 | n + 1, .oc :: l => isU8s n l
 | _, _ => false
def fits : Rp → List CT → Bool
 | .bool, .b :: _ => true
 | .i8, .n .i8 :: _ => true
 | .i16, .n .i16 :: _ => true
 | .i32, .n .i32 :: _ => true
 | .i64, .n .i64 :: _ => true
 | .u16, .n .u16 :: _ => true
 | .uuid, l => isU8s 16 l
 | .str, .s :: _ => true
 | .cstr, .s :: _ => true
 | .nstr, .os :: _ => true
 | .cnstr, .os :: _ => true
 | .bytes, .row false [.oc] :: _ => true
 | .cbytes, .row false [.oc] :: _ => true
 | _, _ => false
def litOk : CT → Value → Bool
 | .b, .bool _ => true
 | .oc, .int .u8 x => decide (x = 0)
 | .n k, .int k' _ => decide (k = k')
 | .s, .string x => Nat.beq x.size 0
 | .os, .pointer none => true
 | .row _ _, .slice none 0 0 => true
 | .tg, .map none => true
 | _, _ => false
def litsOk : List CT → List Value → Bool
 | [], [] => true
 | c :: cs, v :: vs => litOk c v && litsOk cs vs
 | _, _ => false
mutual
def okA : List CT → Ra → Bool
 | cts, .prim p off => fits p (cts.drop off)
 | cts, .row _ _ off st dfl body => match cts.drop off with
  | .row st' e :: _ => (st == st') && litsOk e dfl && okAs e body
  | _ => false
 | cts, .tags off => match cts.drop off with
  | .tg :: _ => true
  | _ => false
def okAs : List CT → List Ra → Bool
 | _, [] => true
 | cts, a :: r => okA cts a && okAs cts r
end
mutual
def Typed (M : Nat) : CT → D → Prop
 | .b, d => ∃ x, d = .lit (.bool x)
 | .oc, d => ∃ c, d = byteD c
 | .n k, d => ∃ x, d = .lit (.int k x)
 | .s, d => ∃ s, d = .lit (strV s) ∧ s.length ≤ M
 | .os, d => d = .lit (.pointer none) ∨ ∃ s, d = .ptr (.lit (strV s)) ∧ s.length ≤ M
 | .row st e, d => d = .lit (.slice none 0 0) ∨ ∃ (nl : Bool) (els : List (List D)), d = .sl nl (els.map (elD st)) ∧ els.length ≤ M ∧ ∀ x ∈ els, Typeds M e x
 | .tg, d => d = .lit (.map none) ∨ ∃ u, d = tagsK u ∧ Rising u ∧ (∀ kv ∈ u, kv.1 < 4294967296 ∧ kv.2.length ≤ M) ∧ u.length ≤ M
def Typeds (M : Nat) : List CT → List D → Prop
 | [], ds => ds = []
 | c :: cs, ds => ∃ d r, ds = d :: r ∧ Typed M c d ∧ Typeds M cs r
end
theorem Typed.unit {M : Nat} : ∀ {c : CT} {d : D}, Typed M c d → d.width = 1
 | .b, d, h => by simp only [Typed] at h; obtain ⟨x, rfl⟩ := h; rfl
 | .n k, d, h => by simp only [Typed] at h; obtain ⟨x, rfl⟩ := h; rfl
 | .oc, d, h => by simp only [Typed] at h; obtain ⟨x, rfl⟩ := h; rfl
 | .s, d, h => by simp only [Typed] at h; obtain ⟨x, rfl, _⟩ := h; rfl
 | .os, d, h => by simp only [Typed] at h; rcases h with rfl | ⟨x, rfl, _⟩ <;> rfl
 | .row st e, d, h => by simp only [Typed] at h; rcases h with rfl | ⟨nl, x, rfl, _⟩ <;> rfl
 | .tg, d, h => by simp only [Typed] at h; rcases h with rfl | ⟨u, rfl, _⟩ <;> rfl
theorem Typeds.len {M : Nat} : ∀ {cs : List CT} {ds : List D}, Typeds M cs ds → ds.length = cs.length ∧ D.widths ds = ds.length
 | [], ds, h => by simp only [Typeds] at h; subst h; exact ⟨rfl, rfl⟩
 | c :: cs, ds, h => by
  simp only [Typeds] at h
  obtain ⟨d, r, rfl, h1, h2⟩ := h
  obtain ⟨k1, k2⟩ := Typeds.len h2
  exact ⟨by simp [k1], by simp [D.widths, h1.unit, k2]; omega⟩
theorem Typeds.split {M : Nat} : ∀ {cs : List CT} {a b : List D}, Typeds M cs (a ++ b) → Typeds M (cs.take a.length) a ∧ Typeds M (cs.drop a.length) b
 | cs, [], b, h => by simpa [Typeds] using h
 | [], x :: a, b, h => by simp [Typeds] at h
 | c :: cs, x :: a, b, h => by
  simp only [List.cons_append, Typeds] at h
  obtain ⟨d, r, e, h1, h2⟩ := h
  simp only [List.cons.injEq] at e
  obtain ⟨rfl, rfl⟩ := e
  obtain ⟨k1, k2⟩ := Typeds.split h2
  simp only [List.length_cons, List.take_succ_cons, List.drop_succ_cons, Typeds]
  exact ⟨⟨_, _, rfl, h1, k1⟩, k2⟩
theorem Typeds.join {M : Nat} : ∀ {c1 c2 : List CT} {a b : List D}, Typeds M c1 a → Typeds M c2 b → Typeds M (c1 ++ c2) (a ++ b)
 | [], c2, a, b, h, k => by simp only [Typeds] at h; subst h; exact k
 | c :: c1, c2, a, b, h, k => by
  simp only [Typeds] at h
  obtain ⟨d, r, rfl, h1, h2⟩ := h
  simp only [List.cons_append, Typeds]
  exact ⟨_, _, rfl, h1, Typeds.join h2 k⟩
theorem lits_typed {M : Nat} : ∀ {cs : List CT} {vs : List Value}, litsOk cs vs = true → Typeds M cs (litsD vs)
 | [], [], _ => by simp [litsD, Typeds]
 | [], v :: vs, h => by simp [litsOk] at h
 | c :: cs, [], h => by simp [litsOk] at h
 | c :: cs, v :: vs, h => by
  simp only [litsOk, Bool.and_eq_true] at h
  have h2 := lits_typed (M := M) h.2
  show Typeds M (c :: cs) (.lit v :: litsD vs)
  simp only [Typeds]
  refine ⟨_, _, rfl, ?_, h2⟩
  have h1 := h.1
  unfold litOk at h1
  split at h1
  ·simp [Typed]
  ·simp only [decide_eq_true_eq] at h1; subst h1; simp only [Typed]; exact ⟨0, rfl⟩
  ·simp only [decide_eq_true_eq] at h1; subst h1; simp [Typed]
  ·rename_i x
   have hx : x.data.size = 0 := Nat.eq_of_beq_eq_true h1
   simp only [Typed]
   refine ⟨[], ?_, by simp⟩
   obtain ⟨dat⟩ := x
   have : dat = #[] := Array.eq_empty_of_size_eq_zero hx
   subst this
   rfl
  ·simp [Typed]
  ·simp [Typed]
  ·simp [Typed]
  ·cases h1
theorem put_typed {M : Nat} {cts : List CT} {ds ds' new : List D} {off : Nat} (hd : Typeds M cts ds) (hn : ∃ rest n, new.length = n ∧ cts.drop off = rest ∧ Typeds M (rest.take n) new) (h : putD ds off new = some ds') : Typeds M cts ds' := by
 obtain ⟨a, m, b, rfl, rfl, hwa, hwm, _⟩ := putD_out h
 obtain ⟨rest, n, hln, hr, ht⟩ := hn
 obtain ⟨t1, t3⟩ := Typeds.split hd
 obtain ⟨ta, tm⟩ := Typeds.split t1
 have la : a.length = off := by rw [← ta.len.2]; exact hwa
 have lm : m.length = n := by
  have h1 := tm.len.2
  have h2 := ht.len.2
  omega
 have hlen : cts.length = (a ++ m).length + b.length := by
  have h1 := t1.len.1
  have h3 := t3.len.1
  rw [List.length_take] at h1
  rw [List.length_drop] at h3
  have h4 := hd.len.1
  simp only [List.length_append] at *
  omega
 have e : cts = cts.take a.length ++ ((cts.drop a.length).take m.length ++ cts.drop (a ++ m).length) := by
  rw [List.length_append, ← List.drop_drop, List.take_append_drop, List.take_append_drop]
 rw [e, List.append_assoc]
 have ta' : Typeds M (cts.take a.length) a := by
  have := ta
  rw [List.take_take] at this
  rwa [show min a.length (a ++ m).length = a.length by simp] at this
 refine Typeds.join ta' (Typeds.join ?_ t3)
 rw [la, lm, hr]
 exact ht
end Go.Proofs.YtgpnpfiafcakfaaDoor

namespace Go.Proofs.YtgpnpfiafcakfaaDoor
open Go Go.RowKit
theorem takeN_len {n : Nat} {s : List UInt8} {x : List UInt8 × List UInt8} (h : takeN n s = some x) : x.1.length ≤ s.length ∧ x.2.length ≤ s.length ∧ x.1.length = n := by
 unfold takeN at h
 split at h
 ·cases h; simp; omega
 ·cases h
theorem intP_len {k : IntKind} {n : Nat} {s : List UInt8} {x : Int × List UInt8} (h : intP k n s = some x) : x.2.length ≤ s.length := by
 simp only [intP, Option.map_eq_some_iff] at h
 obtain ⟨y, hy, rfl⟩ := h
 exact (takeN_len hy).2.1
theorem spanP_len {l : Int} {s : List UInt8} {x : List UInt8 × List UInt8} (h : spanP l s = some x) : x.1.length ≤ s.length ∧ x.2.length ≤ s.length := by
 unfold spanP at h
 split at h
 ·cases h
 ·exact ⟨(takeN_len h).1, (takeN_len h).2.1⟩
theorem uvarR_dec : ∀ (k : Nat) (s : List UInt8) (x : Nat × List UInt8), uvarR k s = some x → x.2.length < s.length ∧ x.1 < 16 * 128 ^ (k - 1)
 | 0, s, x, h => by cases s <;> simp [uvarR] at h
 | k + 1, [], x, h => by simp [uvarR] at h
 | k + 1, c :: r, x, h => by
  rw [uvarR_cons] at h
  split at h
  ·rename_i hk
   subst hk
   split at h
   ·cases h; simp; omega
   ·cases h
  split at h
  ·rename_i hk hc
   cases h
   refine ⟨by simp, ?_⟩
   obtain ⟨q, rfl⟩ : ∃ q, k = q + 1 := ⟨k - 1, by omega⟩
   have : 0 < 128 ^ q := Nat.pow_pos (by decide)
   rw [Nat.add_sub_cancel, Nat.pow_succ]
   omega
  ·rename_i hk hc
   cases hu : uvarR k r with
   | none => rw [hu] at h; cases h
   | some y =>
    rw [hu] at h
    simp only [Option.some.injEq] at h
    subst h
    obtain ⟨h1, h2⟩ := uvarR_dec k r y hu
    obtain ⟨q, rfl⟩ : ∃ q, k = q + 1 := ⟨k - 1, by omega⟩
    rw [Nat.add_sub_cancel] at h2 ⊢
    rw [Nat.pow_succ]
    have hcl := c.toNat_lt
    exact ⟨by simp; omega, by simp only []; omega⟩
theorem uvarP_dec {s : List UInt8} {x : Nat × List UInt8} (h : uvarP s = some x) : x.2.length < s.length ∧ x.1 < 4294967296 := by
 have := uvarR_dec 5 s x h
 refine ⟨this.1, Nat.lt_of_lt_of_le this.2 (by decide)⟩
theorem tagsR_typed {M : Nat} : ∀ (n : Nat) (u : List (Nat × List UInt8)) (s : List UInt8) (x : List (Nat × List UInt8) × List UInt8), tagsR n u s = some x → Rising u → (∀ kv ∈ u, kv.1 < 4294967296 ∧ kv.2.length ≤ M) → u.length + s.length ≤ M →
  Rising x.1 ∧ (∀ kv ∈ x.1, kv.1 < 4294967296 ∧ kv.2.length ≤ M) ∧ x.1.length ≤ M ∧ x.2.length ≤ s.length
 | 0, u, s, x, h, hr, hk, hm => by
  simp only [tagsR, Option.some.injEq] at h
  subst h
  exact ⟨hr, hk, by simp only []; omega, Nat.le_refl _⟩
 | n + 1, u, s, x, h, hr, hk, hm => by
  simp only [tagsR, Option.bind_eq_some_iff] at h
  obtain ⟨a, ha, b, hb, z, hz, h⟩ := h
  obtain ⟨a1, a2⟩ := uvarP_dec ha
  obtain ⟨b1, _⟩ := uvarP_dec hb
  obtain ⟨z1, z2, _⟩ := takeN_len hz
  have hl := setTag_length (k := a.1) (v := z.1) hr
  have hl2 : (setTag a.1 z.1 u).length ≤ u.length + 1 := by rw [hl]; split <;> omega
  obtain ⟨k1, k2, k3, k4⟩ := tagsR_typed (M := M) n _ _ x h (setTag_rising hr) (fun kv hkv => by
   rcases (mem_setTag hr).1 hkv with rfl | ⟨h1, _⟩
   ·exact ⟨a2, by simp only []; omega⟩
   ·exact hk kv h1) (by omega)
  exact ⟨k1, k2, k3, by omega⟩
theorem tagsP_typed {M : Nat} {s : List UInt8} {x : List (Nat × List UInt8) × List UInt8} (h : tagsP s = some x) (hm : s.length ≤ M) :
  Rising x.1 ∧ (∀ kv ∈ x.1, kv.1 < 4294967296 ∧ kv.2.length ≤ M) ∧ x.1.length ≤ M ∧ x.2.length ≤ s.length := by
 simp only [tagsP, Option.bind_eq_some_iff] at h
 obtain ⟨a, ha, h⟩ := h
 obtain ⟨a1, _⟩ := uvarP_dec ha
 obtain ⟨k1, k2, k3, k4⟩ := tagsR_typed (M := M) _ _ _ x h (by simp [Rising]) (by simp) (by simp; omega)
 exact ⟨k1, k2, k3, by omega⟩
theorem u8s_typed {M : Nat} : ∀ (s : List UInt8) (l : List CT), isU8s s.length l = true → Typeds M (l.take s.length) (s.map byteD)
 | [], l, _ => by simp [Typeds]
 | c :: s, l, h => by
  unfold isU8s at h
  split at h
  ·rename_i e; simp at e
  ·rename_i n l' e
   have e' : s.length = n := by simp only [List.length_cons] at e; omega
   subst e'
   simp only [List.length_cons, List.take_succ_cons, List.map_cons, Typeds]
   exact ⟨_, _, rfl, by simp only [Typed]; exact ⟨_, rfl⟩, u8s_typed s l' h⟩
  ·cases h
theorem one_typed {M : Nat} {c : CT} {l : List CT} {d : D} (h : Typed M c d) : Typeds M ((c :: l).take 1) [d] := by
 simp only [List.take_succ_cons, List.take_zero, Typeds]
 exact ⟨_, _, rfl, h, rfl⟩
theorem octs_typed {M : Nat} (s : List UInt8) (h : s.length ≤ M) : Typed M (.row false [.oc]) (.sl false (s.map byteD)) := by
 simp only [Typed]
 refine .inr ⟨false, s.map fun c => [byteD c], ?_, by simpa using h, ?_⟩
 ·rw [List.map_map]
  rfl
 ·intro x hx
  obtain ⟨c, _, rfl⟩ := List.mem_map.1 hx
  simp only [Typeds, Typed]
  exact ⟨_, _, rfl, ⟨c, rfl⟩, rfl⟩
theorem rdP_typed {M : Nat} {p : Rp} {l : List CT} {s : List UInt8} {x : List D × List UInt8} (h : rdP p s = some x) (hf : fits p l = true) (hm : s.length ≤ M) : Typeds M (l.take x.1.length) x.1 ∧ x.2.length ≤ s.length := by
 unfold fits at hf
 split at hf
 ·unfold rdP at h
  cases s with
  | nil => simp at h
  | cons c r => simp only [Option.some.injEq] at h; subst h; exact ⟨one_typed (by simp only [Typed]; exact ⟨_, rfl⟩), by simp⟩
 iterate 5
  ·simp only [rdP, Option.map_eq_some_iff] at h
   obtain ⟨y, hy, rfl⟩ := h
   exact ⟨one_typed (by simp [Typed]), intP_len hy⟩
 ·simp only [rdP, Option.map_eq_some_iff] at h
  obtain ⟨y, hy, rfl⟩ := h
  obtain ⟨_, k2, k3⟩ := takeN_len hy
  refine ⟨?_, k2⟩
  rw [List.length_map]
  exact u8s_typed _ _ (by rw [k3]; exact hf)
 ·simp only [rdP, Option.bind_eq_some_iff, Option.map_eq_some_iff] at h
  obtain ⟨y, hy, z, hz, rfl⟩ := h
  have := intP_len hy
  obtain ⟨k1, k2⟩ := spanP_len hz
  exact ⟨one_typed (by simp only [Typed]; exact ⟨_, rfl, by omega⟩), by simp only []; omega⟩
 ·simp only [rdP, Option.bind_eq_some_iff, Option.map_eq_some_iff] at h
  obtain ⟨y, hy, z, hz, rfl⟩ := h
  have := (uvarP_dec hy).1
  obtain ⟨k1, k2⟩ := spanP_len hz
  exact ⟨one_typed (by simp only [Typed]; exact ⟨_, rfl, by omega⟩), by simp only []; omega⟩
 ·simp only [rdP, Option.bind_eq_some_iff] at h
  obtain ⟨y, hy, h⟩ := h
  have := intP_len hy
  split at h
  ·cases h; exact ⟨one_typed (by simp [Typed]), by simp only []; omega⟩
  ·simp only [Option.map_eq_some_iff] at h
   obtain ⟨z, hz, rfl⟩ := h
   obtain ⟨k1, k2⟩ := spanP_len hz
   exact ⟨one_typed (by simp only [Typed]; exact .inr ⟨_, rfl, by omega⟩), by simp only []; omega⟩
 ·simp only [rdP, Option.bind_eq_some_iff] at h
  obtain ⟨y, hy, h⟩ := h
  have := (uvarP_dec hy).1
  split at h
  ·cases h; exact ⟨one_typed (by simp [Typed]), by simp only []; omega⟩
  ·simp only [Option.map_eq_some_iff] at h
   obtain ⟨z, hz, rfl⟩ := h
   obtain ⟨k1, k2⟩ := spanP_len hz
   exact ⟨one_typed (by simp only [Typed]; exact .inr ⟨_, rfl, by omega⟩), by simp only []; omega⟩
 ·simp only [rdP, Option.bind_eq_some_iff] at h
  obtain ⟨y, hy, h⟩ := h
  have := intP_len hy
  split at h
  ·cases h; exact ⟨one_typed (octs_typed [] (by simp)), by simp only []; omega⟩
  ·simp only [Option.map_eq_some_iff] at h
   obtain ⟨z, hz, rfl⟩ := h
   obtain ⟨k1, k2⟩ := spanP_len hz
   exact ⟨one_typed (octs_typed _ (by omega)), by simp only []; omega⟩
 ·simp only [rdP, Option.bind_eq_some_iff] at h
  obtain ⟨y, hy, h⟩ := h
  have := (uvarP_dec hy).1
  split at h
  ·cases h; exact ⟨one_typed (octs_typed [] (by simp)), by simp only []; omega⟩
  ·simp only [Option.map_eq_some_iff] at h
   obtain ⟨z, hz, rfl⟩ := h
   obtain ⟨k1, k2⟩ := spanP_len hz
   exact ⟨one_typed (octs_typed _ (by omega)), by simp only []; omega⟩
 ·cases hf
theorem lenP_len {c : Bool} {s : List UInt8} {x : Int × List UInt8} (h : lenP c s = some x) : x.1 ≤ x.2.length ∧ x.2.length ≤ s.length := by
 simp only [lenP, Option.bind_eq_some_iff] at h
 obtain ⟨y, hy, h⟩ := h
 split at h
 ·cases h
 ·cases h
  refine ⟨by omega, ?_⟩
  split at hy
  ·simp only [Option.map_eq_some_iff] at hy
   obtain ⟨z, hz, rfl⟩ := hy
   exact Nat.le_of_lt (uvarP_dec hz).1
  ·exact intP_len hy
def ActTy (M : Nat) (cts : List CT) (l : List Ra) : Prop := ∀ (ds : List D) (s : List UInt8) (x : List D × List UInt8), s.length ≤ M → Typeds M cts ds → rdAs l ds s = some x → Typeds M cts x.1 ∧ x.2.length ≤ s.length
theorem rdRow_typed {M : Nat} {e : List CT} {body : List Ra} {dfl : List Value} (hb : ActTy M e body) (hd : litsOk e dfl = true) : ∀ (n : Nat) (s : List UInt8) (x : List (List D) × List UInt8), s.length ≤ M → rdRow body (litsD dfl) n s = some x → x.1.length = n ∧ (∀ y ∈ x.1, Typeds M e y) ∧ x.2.length ≤ s.length
 | 0, s, x, hm, h => by simp only [rdRow, Option.some.injEq] at h; subst h; simp
 | n + 1, s, x, hm, h => by
  simp only [rdRow, Option.bind_eq_some_iff, Option.map_eq_some_iff] at h
  obtain ⟨y, hy, z, hz, rfl⟩ := h
  obtain ⟨h1, h2⟩ := hb _ _ _ hm (lits_typed hd) hy
  obtain ⟨k1, k2, k3⟩ := rdRow_typed hb hd n _ _ (by omega) hz
  refine ⟨by simp [k1], fun q hq => ?_, by simp only []; omega⟩
  rcases List.mem_cons.1 hq with rfl | hq
  ·exact h1
  ·exact k2 q hq
mutual
theorem rdA_typed {M : Nat} : ∀ (a : Ra) (cts : List CT), okA cts a = true → ∀ (ds : List D) (s : List UInt8) (x : List D × List UInt8), s.length ≤ M → Typeds M cts ds → rdA a ds s = some x → Typeds M cts x.1 ∧ x.2.length ≤ s.length
 | .prim p off, cts, h, ds, s, x, hm, hd, hr => by
  simp only [okA] at h
  simp only [rdA, Option.bind_eq_some_iff, Option.map_eq_some_iff] at hr
  obtain ⟨y, hy, z, hz, rfl⟩ := hr
  obtain ⟨k1, k2⟩ := rdP_typed hy h hm
  exact ⟨put_typed hd ⟨_, _, rfl, rfl, k1⟩ hz, k2⟩
 | .row c nb off st dfl body, cts, h, ds, s, x, hm, hd, hr => by
  simp only [okA] at h
  split at h
  ·rename_i st' e l hc
   simp only [Bool.and_eq_true, beq_iff_eq] at h
   obtain ⟨⟨rfl, h2⟩, h3⟩ := h
   simp only [rdA, Option.bind_eq_some_iff, Option.map_eq_some_iff] at hr
   obtain ⟨y, hy, z, hz, q, hq, rfl⟩ := hr
   obtain ⟨j1, j2⟩ := lenP_len hy
   obtain ⟨k1, k2, k3⟩ := rdRow_typed (M := M) (rdAs_typed body e h3) h2 _ _ _ (by omega) hz
   refine ⟨put_typed hd ⟨_, 1, rfl, hc, one_typed ?_⟩ hq, by simp only []; omega⟩
   simp only [Typed]
   refine .inr ?_
   cases nb with
   | true =>
    simp only [if_true]
    split
    ·exact ⟨true, [], by simp, by simp, by simp⟩
    ·exact ⟨false, z.1, rfl, by omega, k2⟩
   | false => exact ⟨_, z.1, rfl, by omega, k2⟩
  ·cases h
 | .tags off, cts, h, ds, s, x, hm, hd, hr => by
  simp only [okA] at h
  split at h
  ·rename_i l hc
   simp only [rdA, Option.bind_eq_some_iff, Option.map_eq_some_iff] at hr
   obtain ⟨y, hy, z, hz, rfl⟩ := hr
   obtain ⟨k1, k2, k3, k4⟩ := tagsP_typed hy hm
   exact ⟨put_typed hd ⟨_, 1, rfl, hc, one_typed (by simp only [Typed]; exact .inr ⟨_, rfl, k1, k2, k3⟩)⟩ hz, k4⟩
  ·cases h
theorem rdAs_typed {M : Nat} : ∀ (l : List Ra) (cts : List CT), okAs cts l = true → ActTy M cts l
 | [], cts, _, ds, s, x, hm, hd, hr => by
  simp only [rdAs, Option.some.injEq] at hr
  subst hr
  exact ⟨hd, Nat.le_refl _⟩
 | a :: r, cts, h, ds, s, x, hm, hd, hr => by
  simp only [okAs, Bool.and_eq_true] at h
  simp only [rdAs, Option.bind_eq_some_iff] at hr
  obtain ⟨y, hy, hr⟩ := hr
  obtain ⟨k1, k2⟩ := rdA_typed a cts h.1 ds s y hm hd hy
  obtain ⟨j1, j2⟩ := rdAs_typed r cts h.2 y.1 y.2 x (by omega) k1 hr
  exact ⟨j1, by omega⟩
end
end Go.Proofs.YtgpnpfiafcakfaaDoor

namespace Go.Proofs.YtgpnpfiafcakfaaDoor
open Go Go.RowKit
mutual
def fine : Tree → Prop
 | .mk _ s _ l u => (s.length ≤ lim ∧ l.length ≤ 1000000000 ∧ u.length ≤ 1000000000 ∧ ∀ kv ∈ u, kv.2.length ≤ lim) ∧ fines l
def fines : List Tree → Prop
 | [] => True
 | t :: l => fine t ∧ fines l
end
theorem fines_mem : ∀ {l : List Tree}, fines l → ∀ t ∈ l, fine t
 | [], _, t, h => by cases h
 | x :: l, h, t, ht => by
  simp only [fines] at h
  rcases List.mem_cons.1 ht with rfl | h1
  ·exact h.1
  ·exact fines_mem h.2 t h1
theorem fine_lens {t : Tree} (h : fine t) : t.s.length ≤ lim ∧ t.l.length ≤ 1000000000 ∧ t.u.length ≤ 1000000000 ∧ ∀ kv ∈ t.u, kv.2.length ≤ lim := by cases t; simp only [fine] at h; exact h.1
theorem fine_l {t : Tree} (h : fine t) : ∀ x ∈ t.l, fine x := by cases t; simp only [fine] at h; exact fines_mem h.2
mutual
theorem fine_small : ∀ {t : Tree}, fine t → t.small
 | .mk _ _ _ l u, h => by
  simp only [fine] at h
  simp only [Tree.small]
  exact ⟨⟨h.1.2.1, h.1.2.2.1⟩, fines_smalls h.2⟩
theorem fines_smalls : ∀ {l : List Tree}, fines l → Tree.smalls l
 | [], _ => by simp [Tree.smalls]
 | t :: l, h => by
  simp only [fines] at h
  simp only [Tree.smalls]
  exact ⟨fine_small h.1, fines_smalls h.2⟩
end
def ctV (kind nul : Int) : List CT :=
 if kind = 0 then [.b] else if kind = 1 then [.n .i8] else if kind = 2 then [.n .i16] else if kind = 3 then [.n .i32] else if kind = 5 then [.n .u16]
 else if kind = 7 then List.replicate 16 .oc else if kind = 8 then (if 0 ≤ nul then [.os] else [.s]) else if kind = 9 then [.row false [.oc]] else [.n .i64]
mutual
def ctF (tg : Bool) : Fld → List CT
 | .mk kind _ _ nul _ _ of sub => if kind = 11 then [.row (decide (of = 10)) (if of = 10 then ctFs tg sub ++ (if tg then [.tg] else []) else ctV of (-1))]
  else if kind = 10 then ctFs tg sub ++ (if tg then [.tg] else []) else ctV kind nul
def ctFs (tg : Bool) : List Fld → List CT
 | [] => []
 | f :: fs => ctF tg f ++ ctFs tg fs
end
def ctP (tg : Bool) (fs : List Fld) : List CT := ctFs tg fs ++ (if tg then [.tg] else [])
mutual
def cov : Fld → Bool
 | .mk kind _ _ nul _ _ of sub => (!decide (kind = 10) || decide (nul < 0)) && (!decide (kind = 11) || (!decide (of = 7) && !decide (of = 9) && !decide (of = 11))) && covs sub
def covs : List Fld → Bool
 | [] => true
 | f :: fs => cov f && covs fs
end
def One (R : List D → Tree → Prop) (ds : List D) : Prop := ∃ ds', Imp ds ds' ∧ ∃ T, R ds' T ∧ fine T ∧ ∀ T', R ds' T' → T' = T
theorem oc_typed {M : Nat} : ∀ (n : Nat) (ds : List D), Typeds M (List.replicate n .oc) ds → ∃ s : List UInt8, s.length = n ∧ ds = s.map byteD
 | 0, ds, h => by simp only [List.replicate, Typeds] at h; exact ⟨[], rfl, h⟩
 | n + 1, ds, h => by
  simp only [List.replicate_succ, Typeds, Typed] at h
  obtain ⟨d, r, rfl, ⟨c, rfl⟩, h2⟩ := h
  obtain ⟨s, k1, rfl⟩ := oc_typed n r h2
  exact ⟨c :: s, by simp [k1], rfl⟩
theorem one_of {M : Nat} {c : CT} {ds : List D} (h : Typeds M [c] ds) : ∃ d, ds = [d] ∧ Typed M c d := by
 simp only [Typeds] at h
 obtain ⟨d, r, rfl, h1, h2⟩ := h
 subst h2
 exact ⟨d, rfl, h1⟩
theorem fine_leaf (n : Int) : fine (leafT n) := by simp [leafT, fine, fines]
theorem fine_text {s : List UInt8} (h : s.length ≤ lim) : fine (textT s) := by simp [textT, fine, fines, h]
theorem fine_null : fine nullT := by simp [nullT, fine, fines]
theorem octs_of {M : Nat} : ∀ (els : List (List D)), (∀ x ∈ els, Typeds M [.oc] x) → ∃ s : List UInt8, s.length = els.length ∧ els = s.map fun c => [byteD c]
 | [], _ => ⟨[], rfl, rfl⟩
 | x :: els, h => by
  obtain ⟨s, k1, k2⟩ := octs_of els (fun y hy => h y (by simp [hy]))
  obtain ⟨d, rfl, h1⟩ := one_of (h x (by simp))
  simp only [Typed] at h1
  obtain ⟨c, rfl⟩ := h1
  exact ⟨c :: s, by simp [k1], by simp [k2]⟩
theorem v_told {M : Nat} (hM : M ≤ lim) {kind nul : Int} {ds : List D} (h : Typeds M (ctV kind nul) ds) : One (fun ds' T => ∃ d, ds' = [d] ∧ TellV kind nul d T) ds := by
 have mk : ∀ (d : D) (T : Tree), TellV kind nul d T → fine T → (∀ T', TellV kind nul d T' → T' = T) → Imp ds [d] → One (fun ds' T => ∃ d, ds' = [d] ∧ TellV kind nul d T) ds := by
  intro d T h1 h2 h3 h4
  refine ⟨[d], h4, T, ⟨d, rfl, h1⟩, h2, ?_⟩
  rintro T' ⟨d', e, h5⟩
  simp only [List.cons.injEq, and_true] at e
  subst e
  exact h3 T' h5
 have num : ∀ (k : IntKind) (g : Int → Tree), (∀ n, fine (g n)) → (∀ d T, TellV kind nul d T ↔ ∃ n, d = .lit (.int k n) ∧ T = g n) → Typeds M [.n k] ds → One (fun ds' T => ∃ d, ds' = [d] ∧ TellV kind nul d T) ds := by
  intro k g hg hT ht
  obtain ⟨d, rfl, h1⟩ := one_of ht
  simp only [Typed] at h1
  obtain ⟨x, rfl⟩ := h1
  refine mk _ (g x) ((hT _ _).2 ⟨x, rfl, rfl⟩) (hg x) (fun T' h' => ?_) (Imp.refl _)
  obtain ⟨n, e, rfl⟩ := (hT _ _).1 h'
  simp only [D.lit.injEq, Value.int.injEq, true_and] at e
  rw [e]
 unfold ctV at h
 by_cases h0 : kind = 0
 ·simp only [h0, if_true] at h
  obtain ⟨d, rfl, h1⟩ := one_of h
  simp only [Typed] at h1
  obtain ⟨x, rfl⟩ := h1
  subst h0
  refine mk _ (leafT (if x then 1 else 0)) (by simp only [TellV, if_true]; exact ⟨x, rfl, rfl⟩) (fine_leaf _) (fun T' h' => ?_) (Imp.refl _)
  simp only [TellV, if_true] at h'
  obtain ⟨b, e, rfl⟩ := h'
  simp only [D.lit.injEq, Value.bool.injEq] at e
  rw [e]
 simp only [h0, if_false] at h
 by_cases h1 : kind = 1
 ·subst h1
  exact num .i8 (fun n => leafT (IntKind.i64.wrap n)) (fun _ => fine_leaf _) (fun d T => by simp [TellV, kindInt]) (by simpa using h)
 simp only [h1, if_false] at h
 by_cases h2 : kind = 2
 ·subst h2
  exact num .i16 (fun n => leafT (IntKind.i64.wrap n)) (fun _ => fine_leaf _) (fun d T => by simp [TellV, kindInt]) (by simpa using h)
 simp only [h2, if_false] at h
 by_cases h3 : kind = 3
 ·subst h3
  exact num .i32 (fun n => leafT (IntKind.i64.wrap n)) (fun _ => fine_leaf _) (fun d T => by simp [TellV, kindInt]) (by simpa using h)
 simp only [h3, if_false] at h
 by_cases h5 : kind = 5
 ·subst h5
  exact num .u16 (fun n => leafT (IntKind.i64.wrap n)) (fun _ => fine_leaf _) (fun d T => by simp [TellV, kindInt]) (by simpa using h)
 simp only [h5, if_false] at h
 by_cases h7 : kind = 7
 ·subst h7
  simp only [if_true] at h
  obtain ⟨s, hl, rfl⟩ := oc_typed _ _ h
  refine mk (.agg (s.map byteD)) (textT s) (by simp only [TellV]; exact ⟨s, hl, rfl, rfl⟩) (fine_text (by rw [hl]; simp only [lim]; omega)) (fun T' h' => ?_) (imp_agg _)
  simp only [TellV] at h'
  obtain ⟨s', _, e, rfl⟩ := h'
  simp only [D.agg.injEq] at e
  rw [bytes_inj e]
 simp only [h7, if_false] at h
 by_cases h8 : kind = 8
 ·subst h8
  simp only [if_true] at h
  by_cases hn : 0 ≤ nul
  ·simp only [hn, if_true] at h
   obtain ⟨d, rfl, h1⟩ := one_of h
   simp only [Typed] at h1
   rcases h1 with rfl | ⟨s, rfl, hs⟩
   ·refine mk _ nullT (by simp [TellV, hn]) fine_null (fun T' h' => ?_) (Imp.refl _)
    simpa [TellV, hn] using h'
   ·refine mk _ (textT s) (by simp [TellV, hn]; exact ⟨s, rfl, rfl⟩) (fine_text (by omega)) (fun T' h' => ?_) (Imp.refl _)
    simp [TellV, hn] at h'
    obtain ⟨s', e, rfl⟩ := h'
    rw [strV_inj e]
  ·simp only [hn, if_false] at h
   obtain ⟨d, rfl, h1⟩ := one_of h
   simp only [Typed] at h1
   obtain ⟨s, rfl, hs⟩ := h1
   refine mk _ (textT s) (by simp [TellV, hn]; exact ⟨s, rfl, rfl⟩) (fine_text (by omega)) (fun T' h' => ?_) (Imp.refl _)
   simp [TellV, hn] at h'
   obtain ⟨s', e, rfl⟩ := h'
   rw [strV_inj e]
 simp only [h8, if_false] at h
 by_cases h9 : kind = 9
 ·subst h9
  simp only [if_true] at h
  obtain ⟨d, rfl, h1⟩ := one_of h
  simp only [Typed] at h1
  have fin : ∀ (s : List UInt8) (b : Bool), s.length ≤ lim → Imp [d] [.sl b (s.map byteD)] → One (fun ds' T => ∃ d, ds' = [d] ∧ TellV 9 nul d T) [d] := by
   intro s b hs hi
   refine mk _ (.mk 0 s b [] []) ?_ (by simp [fine, fines, hs]) (fun T' h' => ?_) hi
   ·simp only [TellV]
    exact ⟨s, b, ⟨rfl, hs⟩, .inl rfl⟩
   ·simp only [TellV] at h'
    obtain ⟨s', b', ⟨rfl, _⟩, h'⟩ := h'
    rcases h' with h' | ⟨h', _⟩
    ·simp only [D.sl.injEq] at h'
     rw [bytes_inj h'.2, h'.1]
    ·cases h'
  rcases h1 with rfl | ⟨nl, els, rfl, hl, he⟩
  ·exact fin [] true (by simp) imp_nilSl
  ·obtain ⟨s, hs, rfl⟩ := octs_of els he
   refine fin s nl (by rw [List.length_map] at hl; omega) ?_
   rw [List.map_map]
   exact Imp.refl _
 simp only [h9, if_false] at h
 refine num .i64 leafT (fun _ => fine_leaf _) (fun d T => ?_) h
 simp [TellV, kindInt, h0, h1, h2, h3, h5, h7, h8, h9]
end Go.Proofs.YtgpnpfiafcakfaaDoor

namespace Go.Proofs.YtgpnpfiafcakfaaDoor
open Go Go.RowKit
theorem imp_trans {a b c : List D} (h : Imp a b) (k : Imp b c) : Imp a c := fun ok w cs hr => k ok w cs (h ok w cs hr)
theorem tags_one {M : Nat} (hM : M ≤ 1000000000) {tg : Bool} {ds : List D} (h : Typeds M (if tg then [.tg] else []) ds) : ∃ u, Imp ds (TellTags tg u) ∧ (tg = true → OkTags u) ∧ (tg = false → u = []) ∧ u.length ≤ 1000000000 ∧ ∀ kv ∈ u, kv.2.length ≤ lim := by
 cases tg with
 | false =>
  simp only [Bool.false_eq_true, if_false, Typeds] at h
  subst h
  exact ⟨[], Imp.refl _, fun h => (by cases h), fun _ => rfl, by simp, by simp⟩
 | true =>
  simp only [if_true] at h
  obtain ⟨d, rfl, h1⟩ := one_of h
  simp only [Typed] at h1
  rcases h1 with rfl | ⟨u, rfl, k1, k2, k3⟩
  ·exact ⟨[], imp_nilMp, fun _ => ⟨by simp [Rising], by simp, by simp⟩, fun h => (by cases h), by simp, by simp⟩
  ·exact ⟨u, Imp.refl _, fun _ => ⟨k1, fun kv hkv => ⟨(k2 kv hkv).1, by have := (k2 kv hkv).2; simp only [lim]; omega⟩, by omega⟩, fun h => (by cases h), by omega, fun kv hkv => by have := (k2 kv hkv).2; simp only [lim]; omega⟩
theorem tellTags_inj {tg : Bool} {u v : List (Nat × List UInt8)} (h : TellTags tg u = TellTags tg v) : (if tg then u else []) = (if tg then v else []) := by
 cases tg with
 | false => rfl
 | true =>
  simp only [TellTags, if_true, List.cons.injEq, and_true] at h
  simp only [if_true]
  exact tagsK_inj h
theorem p_told {M : Nat} (hM : M ≤ 1000000000) {tg : Bool} {fs : List Fld} (hl : fs.length ≤ 1000) (hF : ∀ ds, Typeds M (ctFs tg fs) ds → ∃ ds', Imp ds ds' ∧ ∃ l, TellFs tg fs ds' l ∧ (l.length = fs.length ∧ fines l) ∧ ∀ l', TellFs tg fs ds' l' → l' = l)
  {ds : List D} (h : Typeds M (ctP tg fs) ds) : One (TellP tg fs) ds := by
 unfold ctP at h
 obtain ⟨a, b, rfl, ha, hb⟩ : ∃ a b, ds = a ++ b ∧ Typeds M (ctFs tg fs) a ∧ Typeds M (if tg then [.tg] else []) b := by
  have hlen := h.len.1
  rw [List.length_append] at hlen
  have hs := Typeds.split (M := M) (cs := ctFs tg fs ++ (if tg then [.tg] else [])) (a := ds.take (ctFs tg fs).length) (b := ds.drop (ctFs tg fs).length) (by rw [List.take_append_drop]; exact h)
  have hk : (ds.take (ctFs tg fs).length).length = (ctFs tg fs).length := by rw [List.length_take]; omega
  rw [hk, List.take_left, List.drop_left] at hs
  exact ⟨_, _, (List.take_append_drop _ _).symm, hs.1, hs.2⟩
 obtain ⟨a', i1, l, t1, ⟨t2, t3⟩, t4⟩ := hF a ha
 obtain ⟨u, i2, u1, u2, u3, u4⟩ := tags_one hM hb
 refine ⟨a' ++ TellTags tg u, Imp.app i1 i2, .mk 0 [] false l (if tg then u else []), ⟨a', u, rfl, rfl, u1, t1⟩, ?_, ?_⟩
 ·simp only [fine]
  refine ⟨⟨by simp, by omega, ?_, ?_⟩, t3⟩
  ·cases tg <;> simp [u3]
  ·cases tg with
   | false => simp
   | true => exact u4
 ·rintro T' ⟨a2, v, e, hT, _, hs⟩
  obtain ⟨e1, e2⟩ := split_cnt e (by rw [tellFs_cnt t1, tellFs_cnt hs])
  subst e1
  rw [hT, t4 _ hs, ← tellTags_inj e2]
theorem elems_told {M : Nat} {st tg : Bool} {kind : Int} {sub : List Fld} {e : List CT} (hE : ∀ x, Typeds M e x → ∃ d', Imp [elD st x] [d'] ∧ ∃ T, TellE tg kind sub d' T ∧ fine T ∧ ∀ T', TellE tg kind sub d' T' → T' = T) : ∀ (els : List (List D)), (∀ x ∈ els, Typeds M e x) →
  ∃ els' Ts, els'.length = els.length ∧ Ts.length = els.length ∧ Imp (els.map (elD st)) els' ∧ (∀ (i : Nat) (d : D) (x : Tree), els'[i]? = some d → Ts[i]? = some x → TellE tg kind sub d x) ∧ fines Ts ∧ ∀ Ts' : List Tree, Ts'.length = els'.length → (∀ (i : Nat) (d : D) (x : Tree), els'[i]? = some d → Ts'[i]? = some x → TellE tg kind sub d x) → Ts' = Ts
 | [], _ => ⟨[], [], rfl, rfl, Imp.refl _, fun i d x h => by simp at h, by simp [fines], fun Ts' h _ => List.eq_nil_of_length_eq_zero h⟩
 | y :: els, h => by
  obtain ⟨d', i1, T, t1, t2, t3⟩ := hE y (h y (by simp))
  obtain ⟨els', Ts, k1, k2, k3, k4, k5, k6⟩ := elems_told hE els (fun x hx => h x (by simp [hx]))
  refine ⟨d' :: els', T :: Ts, by simp [k1], by simp [k2], Imp.app (a := [elD st y]) (b := [d']) i1 k3, ?_, by simp only [fines]; exact ⟨t2, k5⟩, ?_⟩
  ·intro i d x h1 h2
   cases i with
   | zero =>
    simp only [List.getElem?_cons_zero, Option.some.injEq] at h1 h2
    subst h1; subst h2; exact t1
   | succ i => exact k4 i d x (by simpa using h1) (by simpa using h2)
  ·intro Ts' hl ht
   cases Ts' with
   | nil => simp at hl
   | cons x r =>
    have h1 := t3 x (ht 0 d' x rfl rfl)
    have h2 := k6 r (by simpa using hl) (fun i d y h1 h2 => ht (i + 1) d y (by simpa using h1) (by simpa using h2))
    rw [h1, h2]
theorem e_told {M : Nat} (hM : M ≤ 1000000000) {tg : Bool} {of : Int} {sub : List Fld} (h7 : of ≠ 7) (h9 : of ≠ 9) (hP : of = 10 → ∀ ds, Typeds M (ctP tg sub) ds → One (TellP tg sub) ds) {x : List D} (h : Typeds M (if of = 10 then ctP tg sub else ctV of (-1)) x) :
  ∃ d', Imp [elD (decide (of = 10)) x] [d'] ∧ ∃ T, TellE tg of sub d' T ∧ fine T ∧ ∀ T', TellE tg of sub d' T' → T' = T := by
 by_cases h10 : of = 10
 ·simp only [h10, if_true] at h
  obtain ⟨ds', i1, T, t1, t2, t3⟩ := hP h10 x h
  subst h10
  refine ⟨.agg ds', ?_, T, by simp only [TellE, if_true]; exact ⟨_, rfl, t1⟩, t2, ?_⟩
  ·refine Imp.one (fun ok w cs hr => ?_)
   simp only [elD, decide_true, if_true, Rep] at hr ⊢
   exact i1 ok w cs hr
  ·intro T' h'
   simp only [TellE, if_true] at h'
   obtain ⟨ps, e, h'⟩ := h'
   simp only [D.agg.injEq] at e
   subst e
   exact t3 T' h'
 ·simp only [h10, if_false] at h
  obtain ⟨ds', i1, T, ⟨d, rfl, t1⟩, t2, t3⟩ := v_told (M := M) (by simp only [lim]; omega) h
  have hlen : x.length = 1 := by
   rw [h.len.1]
   unfold ctV
   simp only [h7, h9, if_false]
   repeat' split
   all_goals first | rfl | omega
  obtain ⟨y, rfl⟩ : ∃ y, x = [y] := by
   match x, hlen with
   | [y], _ => exact ⟨y, rfl⟩
  refine ⟨d, ?_, T, by simp only [TellE, h10, if_false]; exact t1, t2, ?_⟩
  ·simp only [elD, h10, decide_false, Bool.false_eq_true, if_false]
   exact i1
  ·intro T' h'
   simp only [TellE, h10, if_false] at h'
   exact t3 T' ⟨d, rfl, h'⟩
mutual
theorem f_told {M : Nat} (hM : M ≤ 1000000000) (tg : Bool) : ∀ (f : Fld), cov f = true → f.okb = true → ∀ ds, Typeds M (ctF tg f) ds → One (TellF tg f) ds
 | .mk kind fr upto nul tag df of sub, hc, hk, ds, h => by
  simp only [cov, Bool.and_eq_true, Bool.or_eq_true, Bool.not_eq_true', decide_eq_false_iff_not, decide_eq_true_eq] at hc
  obtain ⟨⟨h10n, h11n⟩, hcs⟩ := hc
  simp only [Fld.okb, Bool.and_eq_true] at hk
  have hl : sub.length ≤ 1000 := Nat.le_of_ble_eq_true hk.1.2
  have hP : ∀ ds, Typeds M (ctP tg sub) ds → One (TellP tg sub) ds := fun ds hd => p_told hM hl (fs_told hM tg sub hcs hk.2) hd
  simp only [ctF] at h
  by_cases h11 : kind = 11
  ·simp only [h11, if_true] at h
   obtain ⟨⟨o7, o9⟩, o11⟩ := h11n.resolve_left (fun e => e h11)
   obtain ⟨d, rfl, h1⟩ := one_of h
   have hE := fun x hx => e_told hM (tg := tg) (of := of) (sub := sub) o7 o9 (fun _ => hP) (x := x) hx
   simp only [Typed] at h1
   have fin : ∀ (nl : Bool) (els : List (List D)), els.length ≤ M → (∀ x ∈ els, Typeds M (if of = 10 then ctP tg sub else ctV of (-1)) x) → ∀ d, Imp [d] [.sl nl (els.map (elD (decide (of = 10))))] → One (TellF tg (.mk kind fr upto nul tag df of sub)) [d] := by
    intro nl els hm hx d hi
    obtain ⟨els', Ts, k1, k2, k3, k4, k5, k6⟩ := elems_told hE els hx
    refine ⟨[.sl nl els'], imp_trans hi (imp_sl (by simp [k1]) k3), .mk 0 [] nl Ts [], ?_, ?_, ?_⟩
    ·rw [TellF_mk]
     simp only [h11, if_true]
     exact ⟨_, els', rfl, rfl, .inl rfl, by simp only [Tree.l]; omega, by omega, k4⟩
    ·simp only [fine]
     exact ⟨⟨by simp, by omega, by simp, by simp⟩, k5⟩
    ·intro T' hT
     rw [TellF_mk] at hT
     simp only [h11, if_true] at hT
     obtain ⟨d2, els2, e1, e2, e3, e4, e5, e6⟩ := hT
     simp only [List.cons.injEq, and_true] at e1
     subst e1
     rcases e3 with e3 | ⟨e3, _⟩
     ·simp only [D.sl.injEq] at e3
      obtain ⟨rfl, rfl⟩ := e3
      exact e2.trans (by rw [k6 T'.l e4 e6])
     ·cases e3
   rcases h1 with rfl | ⟨nl, els, rfl, hm, hx⟩
   ·exact fin true [] (by simp) (by simp) _ imp_nilSl
   ·exact fin nl els hm hx _ (Imp.refl _)
  ·simp only [h11, if_false] at h
   by_cases h10 : kind = 10
   ·simp only [h10, if_true] at h
    obtain ⟨ds', i1, T, t1, t2, t3⟩ := hP ds h
    refine ⟨ds', i1, T, ?_, t2, fun T' h' => t3 T' ?_⟩
    ·rw [TellF_mk]; simp only [h11, h10, if_false, if_true]; simp only [show ¬ ((10 : Int) = 11) by decide, if_false]; exact t1
    ·rw [TellF_mk] at h'; simp only [h10, if_true] at h'; simpa only [show ¬ ((10 : Int) = 11) by decide, if_false] using h'
   ·simp only [h10, if_false] at h
    obtain ⟨ds', i1, T, t1, t2, t3⟩ := v_told (M := M) (by simp only [lim]; omega) h
    refine ⟨ds', i1, T, ?_, t2, fun T' h' => t3 T' ?_⟩
    ·rw [TellF_mk]; simp only [h11, h10, if_false]; exact t1
    ·rw [TellF_mk] at h'; simpa only [h11, h10, if_false] using h'
theorem fs_told {M : Nat} (hM : M ≤ 1000000000) (tg : Bool) : ∀ (fs : List Fld), covs fs = true → Fld.oksb fs = true → ∀ ds, Typeds M (ctFs tg fs) ds → ∃ ds', Imp ds ds' ∧ ∃ l, TellFs tg fs ds' l ∧ (l.length = fs.length ∧ fines l) ∧ ∀ l', TellFs tg fs ds' l' → l' = l
 | [], _, _, ds, h => by
  simp only [ctFs, Typeds] at h
  subst h
  exact ⟨[], Imp.refl _, [], by simp [TellFs], ⟨rfl, by simp [fines]⟩, fun l' h' => by simp only [TellFs] at h'; exact h'.2⟩
 | f :: fs, hc, hk, ds, h => by
  simp only [covs, Bool.and_eq_true] at hc
  simp only [Fld.oksb, Bool.and_eq_true] at hk
  simp only [ctFs] at h
  obtain ⟨a, b, rfl, ha, hb⟩ : ∃ a b, ds = a ++ b ∧ Typeds M (ctF tg f) a ∧ Typeds M (ctFs tg fs) b := by
   have hlen := h.len.1
   rw [List.length_append] at hlen
   have hs := Typeds.split (M := M) (cs := ctF tg f ++ ctFs tg fs) (a := ds.take (ctF tg f).length) (b := ds.drop (ctF tg f).length) (by rw [List.take_append_drop]; exact h)
   have hk : (ds.take (ctF tg f).length).length = (ctF tg f).length := by rw [List.length_take]; omega
   rw [hk, List.take_left, List.drop_left] at hs
   exact ⟨_, _, (List.take_append_drop _ _).symm, hs.1, hs.2⟩
  obtain ⟨a', i1, T, t1, t2, t3⟩ := f_told hM tg f hc.1 hk.1 a ha
  obtain ⟨b', i2, l, s1, ⟨s2, s3⟩, s4⟩ := fs_told hM tg fs hc.2 hk.2 b hb
  refine ⟨a' ++ b', Imp.app i1 i2, T :: l, ?_, ⟨by simp [s2], by simp only [fines]; exact ⟨t2, s3⟩⟩, ?_⟩
  ·simp only [TellFs]; exact ⟨_, _, _, _, rfl, rfl, t1, s1⟩
  ·intro l' h'
   simp only [TellFs] at h'
   obtain ⟨p, q, x, r, e, rfl, g1, g2⟩ := h'
   obtain ⟨e1, e2⟩ := split_cnt e (by rw [tellF_cnt t1, tellF_cnt g1])
   subst e1; subst e2
   rw [t3 x g1, s4 r g2]
end
theorem told_P {M : Nat} (hM : M ≤ 1000000000) {tg : Bool} {fs : List Fld} (hc : covs fs = true) (hk : fsok fs = true) {ds : List D} (h : Typeds M (ctP tg fs) ds) : One (TellP tg fs) ds := by
 unfold fsok at hk
 rw [Bool.and_eq_true] at hk
 exact p_told hM (Nat.le_of_ble_eq_true hk.2) (fs_told hM tg fs hc hk.1) h
end Go.Proofs.YtgpnpfiafcakfaaDoor

namespace Go.Proofs.YtgpnpfiafcakfaaDoor.Sam
open Go Go.RowKit
def SamOK (t : Tree) : Prop := ∀ (B : Nat) (w : World) (xs ys : List Value), fine t → B ≤ w.heap.size → Rep (Lo B) w (treeD t) xs → Rep (Lo B) w (treeD t) ys →
 Fn 8 [.agg xs.toArray, .agg ys.toArray] w fun v _ => v = .bool true
section
set_option maxRecDepth 100000
theorem sam_of (t : Tree) (hF : ∀ x ∈ t.l, SamOK x) : SamOK t := by
 intro B w xs ys hsm hB ha hb
 obtain ⟨sv, lv, uv, rfl, hs, hl, hu⟩ := tree_cells ha
 obtain ⟨sv', lv', uv', rfl, hs', hl', hu'⟩ := tree_cells hb
 obtain ⟨la, lc, rfl, _⟩ := hl.shape
 obtain ⟨sa, sc, rfl, _⟩ := hs.shape
 obtain ⟨ua, uc, rfl, _⟩ := hu.shape
 obtain ⟨la', lc', rfl, _⟩ := hl'.shape
 obtain ⟨sa', sc', rfl, _⟩ := hs'.shape
 obtain ⟨ua', uc', rfl, _⟩ := hu'.shape
 obtain ⟨hss, hll, hul, hut⟩ := fine_lens hsm
 refine enter Tryd.func8 rfl Tryd.ntmps8 rfl ?_
 repeat (with_reducible first|apply wc_seq|apply wc_region)
 refine wl_box1 rfl rfl rfl (fun w1 hb1 hg1 hs1 => wl_box1 rfl rfl rfl (fun w2 hb2 hg2 hs2 => ?_))
 have hba : Box w2 w.heap.size [.int .i64 t.n, .slice sa (t.s.map byteD).length sc, .bool t.nul, .slice la (t.l.map treeD).length lc, .slice ua (t.u.map tagD).length uc] 35 := hb1.kept hg2 (by simp)
 have hw2 : Below w.heap.size w w2 := (below_of hg1 (Nat.le_refl _) (by simp)).trans (below_of hg2 (by omega) (by simp))
 repeat first|(with_reducible first|apply wc_seq|apply wc_region|apply wl_nil|apply qk_thn)|((with_reducible apply ws);exact rfl;exact rfl)
 refine wl_loadB rfl to_i64 rfl hba rfl ?_
 repeat ((with_reducible apply ws);exact rfl;exact rfl)
 refine wl_loadB rfl to_i64 rfl hb2 rfl ?_
 repeat ((with_reducible apply ws);exact rfl;exact rfl)
 rw [bne_self_eq_false]
 repeat first|((with_reducible apply ws);exact rfl;exact rfl)|((with_reducible apply wl_yes);exact rfl;exact rfl;exact rfl)
 refine wl_loadB rfl to_bool rfl hba rfl ?_
 repeat first|((with_reducible apply ws);exact rfl;exact rfl)|((with_reducible apply wl_yes);exact rfl;exact rfl;exact rfl)
 refine wl_loadB rfl to_bool rfl hb2 rfl ?_
 repeat ((with_reducible apply wl_yes);exact rfl;exact rfl;exact rfl)
 refine wl_neqB rfl rfl Tryd.underlying4 rfl ?_
 rw [bne_self_eq_false]
 repeat first|((with_reducible apply ws);exact rfl;exact rfl)|((with_reducible apply wl_yes);exact rfl;exact rfl;exact rfl)
 refine wl_loadB rfl to_bytes rfl hba rfl ?_
 repeat first|((with_reducible apply ws);exact rfl;exact rfl)|((with_reducible apply wl_yes);exact rfl;exact rfl;exact rfl)
 refine wl_loadB rfl to_bytes rfl hb2 rfl ?_
 repeat ((with_reducible apply wl_yes);exact rfl;exact rfl;exact rfl)
 refine wl_call rfl (by kernel_rfl) rfl ((fn_same _ _ t.s t.s w2 ((hs.below (hw2.mono hB) (Nat.le_refl _)).bytes) ((hs'.below (hw2.mono hB) (Nat.le_refl _)).bytes) hss hss).mono ?_)
 rintro e w3 ⟨v, rfl, hw23, rfl⟩
 refine ⟨_, rfl, ?_⟩
 rw [beq_self_eq_true]
 have hw3 := hw2.trans (hw23.mono (by omega))
 have hba3 := hba.below hw23 (by omega)
 have hb3 := hb2.below hw23 (by omega)
 repeat first|((with_reducible apply ws);exact rfl;exact rfl)|((with_reducible apply wl_yes);exact rfl;exact rfl;exact rfl)
 refine wl_loadB rfl to_trees rfl hba3 rfl ?_
 repeat first|((with_reducible apply ws);exact rfl;exact rfl)|((with_reducible apply wl_yes);exact rfl;exact rfl;exact rfl)
 refine wl_loadB rfl to_trees rfl hb3 rfl ?_
 repeat first|((with_reducible apply ws);exact rfl;exact rfl)|((with_reducible apply wl_yes);exact rfl;exact rfl;exact rfl)
 rw [bne_self_eq_false]
 repeat first|((with_reducible apply ws);exact rfl;exact rfl)|((with_reducible apply wl_yes);exact rfl;exact rfl;exact rfl)
 refine wl_loadB rfl to_tags rfl hba3 rfl ?_
 repeat first|((with_reducible apply ws);exact rfl;exact rfl)|((with_reducible apply wl_yes);exact rfl;exact rfl;exact rfl)
 refine wl_loadB rfl to_tags rfl hb3 rfl ?_
 repeat first|(with_reducible first|apply wl_nil|apply qk_thn)|((with_reducible apply ws);exact rfl;exact rfl)|((with_reducible apply wl_yes);exact rfl;exact rfl;exact rfl)
 rw [bne_self_eq_false]
 skip
 refine wc_no rfl rfl ?_
 repeat first|(with_reducible first|apply wc_seq|apply wc_region|apply qk_thn|apply wc_skip)|((with_reducible apply ws);exact rfl;exact rfl)
 refine wl_loadB rfl to_trees rfl hba3 rfl ?_
 repeat first|(with_reducible first|apply wl_nil|apply qk_thn|apply wc_block)|((with_reducible apply ws);exact rfl;exact rfl)
 rw [show (t.l.map treeD).length = t.l.length from List.length_map .., show (t.u.map tagD).length = t.u.length from List.length_map ..] at *
 refine wc_loop (α := Nat) (fun i => [(48, .int .i64 (i : Int)), (47, .int .i64 (t.l.length : Int)), (2, .pointer (some ⟨w.heap.size, 0, none⟩)), (3, .pointer (some ⟨w1.heap.size, 0, none⟩))]) (fun i w' => i ≤ t.l.length ∧ Below w3.heap.size w3 w') (fun i => t.l.length - i) 0 ⟨rfl, rfl, rfl, rfl, trivial⟩ ⟨Nat.zero_le _, Below.refl _ _⟩ ?_
 rintro i w4 ⟨hi, hw34⟩
 have hw4 := hw3.trans (hw34.mono hw3.size)
 have hz3 := hw23.size
 have hz4 := hw34.size
 repeat first|(with_reducible first|apply wc_seq|apply wc_region|apply wl_nil|apply qk_thn)|((with_reducible apply ws);exact rfl;exact rfl)
 by_cases hlt : i < t.l.length
 ·refine wc_yes rfl (by simpa using hlt) ?_
  obtain ⟨b, off, c', cs, hv, _, hcs, hcl, hr⟩ := (hl.below (hw4.mono hB) (Nat.le_refl _)).get (sz := 5) (i := i) (by intro d hd; obtain ⟨x, _, rfl⟩ := List.mem_map.1 hd; exact treeD_width x) (by simpa using hlt)
  simp only [Value.slice.injEq, List.length_map] at hv
  obtain ⟨rfl, _, rfl⟩ := hv
  simp only [List.getElem_map] at hr
  obtain ⟨b', off', c'', cs', hv', _, hcs', hcl', hr'⟩ := (hl'.below (hw4.mono hB) (Nat.le_refl _)).get (sz := 5) (i := i) (by intro d hd; obtain ⟨x, _, rfl⟩ := List.mem_map.1 hd; exact treeD_width x) (by simpa using hlt)
  simp only [Value.slice.injEq, List.length_map] at hv'
  obtain ⟨rfl, _, rfl⟩ := hv'
  simp only [List.getElem_map] at hr'
  repeat first|(with_reducible first|apply wc_seq|apply wc_region|apply wl_nil|apply qk_thn|apply wc_block|apply wc_skip)|((with_reducible apply ws);exact rfl;exact rfl)
  refine wc_par [(0, .pointer (some ⟨w.heap.size, 0 + 3, none⟩)), (1, .slice (some ⟨b, off, none⟩) t.l.length lc), (2, .int .i64 (i : Int)), (3, .pointer (some ⟨b, off + i * 5, none⟩)), (4, .agg cs.toArray), (5, .pointer (some ⟨w1.heap.size, 0 + 3, none⟩)), (6, .slice (some ⟨b', off', none⟩) t.l.length lc'), (7, .int .i64 (i : Int)), (8, .pointer (some ⟨b', off' + i * 5, none⟩)), (9, .agg cs'.toArray)] [11, 10]
   (fun vals w' => Below w4.heap.size w4 w' ∧ match vals with
    | [] => True
    | [v] => v = .bool true
    | v :: _ => v = .bool false)
   mixed rfl rfl rfl rfl rfl (by show ([0,1,2,3,4,5,6,7,8,9] : List Nat).Nodup; decide) rfl rfl (by decide) rfl rfl rfl rfl ⟨(Below.refl _ w4).drew, trivial⟩ ?_ ⟨?_, ?_, trivial⟩ ?_
  ·intro p hp vals w' hC a k
   have hw35 := hw34.trans (hC.1.mono (by omega))
   simp only [List.mem_cons, List.not_mem_nil, or_false] at hp
   rcases hp with rfl | rfl | rfl | rfl | rfl | rfl | rfl | rfl | rfl | rfl
   ·exact gv rfl rfl (rn_fieldAddr k rfl fo_tree3)
   ·exact gv rfl rfl (rn_load k rfl to_trees ((hba3.below hw35 (by omega)).cell0 (i := 3) rfl))
   ·exact gv rfl rfl (rn_move k rfl)
   ·exact gv rfl rfl (rn_indexAddr k rfl rfl es_trees hlt)
   ·exact gv rfl rfl (rn_loadAgg k rfl (by rw [hcl]; exact ta_tree) (fun j v e => (CellsAt.of_block hcs (hC.1.block b (CellsAt.lt hcs))).cell e))
   ·exact gv rfl rfl (rn_fieldAddr k rfl fo_tree3)
   ·exact gv rfl rfl (rn_load k rfl to_trees ((hb3.below hw35 (by omega)).cell0 (i := 3) rfl))
   ·exact gv rfl rfl (rn_move k rfl)
   ·exact gv rfl rfl (rn_indexAddr k rfl rfl es_trees hlt)
   ·exact gv rfl rfl (rn_loadAgg k rfl (by rw [hcl']; exact ta_tree) (fun j v e => (CellsAt.of_block hcs' (hC.1.block b' (CellsAt.lt hcs'))).cell e))
  ·rintro vals w' hvl ⟨hb', hC⟩ a k
   match vals, hvl with
   | [v10], _ =>
    simp only [] at hC
    subst hC
    exact ⟨_, rfl, does_not k rfl ⟨hb', rfl⟩⟩
  ·rintro vals w' hvl ⟨hb', hC⟩ a k
   match vals, hvl with
   | [], _ =>
    have hw5 := hw4.trans (hb'.mono hw4.size)
    refine ⟨_, rfl, does_call k rfl (by kernel_rfl) ((hF t.l[i] (List.getElem_mem hlt) B w' _ _ (fine_l hsm _ (List.getElem_mem hlt)) (by have := hw5.size; omega) (Rep.below hr (hb'.mono (by have := hw4.size; omega)) (Nat.le_refl _)) (Rep.below hr' (hb'.mono (by have := hw4.size; omega)) (Nat.le_refl _))).mono ?_)⟩
    rintro e w'' ⟨v, rfl, hb'', rfl⟩
    exact ⟨_, rfl, hb'.trans (hb''.mono hb'.size), rfl⟩
  ·rintro vals w' hvl ⟨hb', hC⟩
   match vals, hvl with
   | [v11, v10], _ =>
    simp only [] at hC
    subst hC
    refine qk_thn ?_
    refine wc_no rfl rfl ?_
    repeat (with_reducible first|apply wc_region|apply qk_thn|apply wc_skip|apply qk_in)
    refine wl_add rfl rfl rfl (r := ((i + 1 : Nat) : Int)) (by rw [IntKind.wrap_i64]; omega) ?_
    repeat first|(with_reducible apply wl_nil)|((with_reducible apply ws);exact rfl;exact rfl)
    exact qk_round (i + 1) ⟨rfl, rfl, rfl, rfl, trivial⟩ ⟨by omega, hw34.trans (hb'.mono (by omega))⟩ (by omega)
 ·refine wc_no rfl (by simpa using hlt) ?_
  repeat first|(with_reducible first|apply wc_seq|apply wc_region|apply qk_thn|apply wc_exit|apply qk_thn_exit|apply qk_in_exit|apply qk_round_exit)|((with_reducible apply ws);exact rfl;exact rfl)
  have hba4 := hba3.below hw34 (by omega)
  have hb4 := hb3.below hw34 (by omega)
  refine wl_loadB rfl to_tags rfl hba4 rfl ?_
  repeat first|(with_reducible first|apply wl_nil|apply qk_thn|apply wc_block)|((with_reducible apply ws);exact rfl;exact rfl)
  refine wc_loop (α := Nat) (fun i => [(67, .int .i64 (i : Int)), (66, .int .i64 (t.u.length : Int)), (2, .pointer (some ⟨w.heap.size, 0, none⟩)), (3, .pointer (some ⟨w1.heap.size, 0, none⟩))]) (fun i w' => i ≤ t.u.length ∧ Below w4.heap.size w4 w') (fun i => t.u.length - i) 0 ⟨rfl, rfl, rfl, rfl, trivial⟩ ⟨Nat.zero_le _, Below.refl _ _⟩ ?_
  rintro j w5 ⟨hj, hw45⟩
  have hw5 := hw4.trans (hw45.mono hw4.size)
  have hz5 := hw45.size
  repeat first|(with_reducible first|apply wc_seq|apply wc_region|apply wl_nil|apply qk_thn)|((with_reducible apply ws);exact rfl;exact rfl)
  by_cases hjt : j < t.u.length
  ·refine wc_yes rfl (by simpa using hjt) ?_
   obtain ⟨b, off, c', cs, hv, _, hcs, hcl, hr⟩ := (hu.below (hw5.mono hB) (Nat.le_refl _)).get (sz := 2) (i := j) (by intro d hd; obtain ⟨x, _, rfl⟩ := List.mem_map.1 hd; exact tagD_width x) (by simpa using hjt)
   simp only [Value.slice.injEq, List.length_map] at hv
   obtain ⟨rfl, _, rfl⟩ := hv
   simp only [List.getElem_map] at hr
   obtain ⟨b', off', c'', cs', hv', _, hcs', hcl', hr'⟩ := (hu'.below (hw5.mono hB) (Nat.le_refl _)).get (sz := 2) (i := j) (by intro d hd; obtain ⟨x, _, rfl⟩ := List.mem_map.1 hd; exact tagD_width x) (by simpa using hjt)
   simp only [Value.slice.injEq, List.length_map] at hv'
   obtain ⟨rfl, _, rfl⟩ := hv'
   simp only [List.getElem_map] at hr'
   obtain ⟨qv, rfl, hqv⟩ := tag_cells hr
   obtain ⟨qv', rfl, hqv'⟩ := tag_cells hr'
   have hkl := hut _ (List.getElem_mem hjt)
   repeat first|(with_reducible first|apply wc_seq|apply wc_region|apply wl_nil|apply qk_thn|apply wc_block|apply wc_skip)|((with_reducible apply ws);exact rfl;exact rfl)
   refine wc_par [(0, .pointer (some ⟨w.heap.size, 0 + 4, none⟩)), (1, .slice (some ⟨b, off, none⟩) t.u.length uc), (2, .int .i64 (j : Int)), (3, .pointer (some ⟨b, off + j * 2, none⟩)), (4, .pointer (some ⟨b, off + j * 2 + 0, none⟩)), (5, .int .u32 (t.u[j].1 : Nat)), (6, .pointer (some ⟨w1.heap.size, 0 + 4, none⟩)), (7, .slice (some ⟨b', off', none⟩) t.u.length uc'), (8, .int .i64 (j : Int)), (9, .pointer (some ⟨b', off' + j * 2, none⟩)), (10, .pointer (some ⟨b', off' + j * 2 + 0, none⟩)), (11, .int .u32 (t.u[j].1 : Nat)), (12, .bool false), (13, .bool false),
     (14, .pointer (some ⟨w.heap.size, 0 + 4, none⟩)), (15, .slice (some ⟨b, off, none⟩) t.u.length uc), (16, .int .i64 (j : Int)), (17, .pointer (some ⟨b, off + j * 2, none⟩)), (18, .pointer (some ⟨b, off + j * 2 + 1, none⟩)), (19, qv), (20, .pointer (some ⟨w1.heap.size, 0 + 4, none⟩)), (21, .slice (some ⟨b', off', none⟩) t.u.length uc'), (22, .int .i64 (j : Int)), (23, .pointer (some ⟨b', off' + j * 2, none⟩)), (24, .pointer (some ⟨b', off' + j * 2 + 1, none⟩)), (25, qv')] [28, 27, 26]
    (fun vals w' => Below w5.heap.size w5 w' ∧ match vals with
     | [] => True
     | [v] => v = .bool true
     | v :: _ => v = .bool false)
    mixed rfl rfl rfl rfl rfl (by show ([0,1,2,3,4,5,6,7,8,9,10,11,12,13,14,15,16,17,18,19,20,21,22,23,24,25] : List Nat).Nodup; decide) rfl rfl (by decide) rfl rfl rfl rfl ⟨(Below.refl _ w5).drew, trivial⟩ ?_ ⟨?_, ?_, ?_, trivial⟩ ?_
   ·intro p hp vals w' hC a k
    have hw36 := hw45.trans (hC.1.mono (by omega))
    have hbA := hba4.below hw36 (by omega)
    have hbB := hb4.below hw36 (by omega)
    have hcA := CellsAt.of_block hcs (hC.1.block b (CellsAt.lt hcs))
    have hcB := CellsAt.of_block hcs' (hC.1.block b' (CellsAt.lt hcs'))
    simp only [List.mem_cons, List.not_mem_nil, or_false] at hp
    rcases hp with rfl | rfl | rfl | rfl | rfl | rfl | rfl | rfl | rfl | rfl | rfl | rfl | rfl | rfl | rfl | rfl | rfl | rfl | rfl | rfl | rfl | rfl | rfl | rfl | rfl | rfl
    ·exact gv rfl rfl (rn_fieldAddr k rfl fo_tree4)
    ·exact gv rfl rfl (rn_load k rfl to_tags (hbA.cell0 (i := 4) rfl))
    ·exact gv rfl rfl (rn_move k rfl)
    ·exact gv rfl rfl (rn_indexAddr k rfl rfl es_tags hjt)
    ·exact gv rfl rfl (rn_fieldAddr k rfl fo_tag0)
    ·exact gv rfl rfl (rn_load k rfl to_u32 (hcA.cell (i := 0) rfl))
    ·exact gv rfl rfl (rn_fieldAddr k rfl fo_tree4)
    ·exact gv rfl rfl (rn_load k rfl to_tags (hbB.cell0 (i := 4) rfl))
    ·exact gv rfl rfl (rn_move k rfl)
    ·exact gv rfl rfl (rn_indexAddr k rfl rfl es_tags hjt)
    ·exact gv rfl rfl (rn_fieldAddr k rfl fo_tag0)
    ·exact gv rfl rfl (rn_load k rfl to_u32 (hcB.cell (i := 0) rfl))
    ·exact gv rfl rfl ((rn_neq k rfl rfl).trans (by rw [bne_self_eq_false]))
    ·exact gv rfl rfl (rn_move k rfl)
    ·exact gv_yes rfl rfl rfl k rfl rfl (rn_fieldAddr k rfl fo_tree4)
    ·exact gv_yes rfl rfl rfl k rfl rfl (rn_load k rfl to_tags (hbA.cell0 (i := 4) rfl))
    ·exact gv_yes rfl rfl rfl k rfl rfl (rn_move k rfl)
    ·exact gv_yes rfl rfl rfl k rfl rfl (rn_indexAddr k rfl rfl es_tags hjt)
    ·exact gv_yes rfl rfl rfl k rfl rfl (rn_fieldAddr k rfl fo_tag1)
    ·exact gv_yes rfl rfl rfl k rfl rfl (rn_load k rfl to_bytes (hcA.cell (i := 1) rfl))
    ·exact gv_yes rfl rfl rfl k rfl rfl (rn_fieldAddr k rfl fo_tree4)
    ·exact gv_yes rfl rfl rfl k rfl rfl (rn_load k rfl to_tags (hbB.cell0 (i := 4) rfl))
    ·exact gv_yes rfl rfl rfl k rfl rfl (rn_move k rfl)
    ·exact gv_yes rfl rfl rfl k rfl rfl (rn_indexAddr k rfl rfl es_tags hjt)
    ·exact gv_yes rfl rfl rfl k rfl rfl (rn_fieldAddr k rfl fo_tag1)
    ·exact gv_yes rfl rfl rfl k rfl rfl (rn_load k rfl to_bytes (hcB.cell (i := 1) rfl))
   ·rintro vals w' hvl ⟨hb', hC⟩ a k
    match vals, hvl with
    | [v27, v26], _ =>
     simp only [] at hC
     subst hC
     exact ⟨_, rfl, does_pick (b := false) (v := .bool false) k rfl rfl ⟨hb', rfl⟩⟩
   ·rintro vals w' hvl ⟨hb', hC⟩ a k
    match vals, hvl with
    | [v26], _ =>
     simp only [] at hC
     subst hC
     exact ⟨_, rfl, does_not k rfl ⟨hb', rfl⟩⟩
   ·rintro vals w' hvl ⟨hb', hC⟩ a k
    match vals, hvl with
    | [], _ =>
     refine ⟨_, rfl, does_call k rfl (by kernel_rfl) ((fn_same _ _ t.u[j].2 t.u[j].2 w' ((hqv.below (hb'.mono (by have := hw5.size; omega)) (Nat.le_refl _)).bytes) ((hqv'.below (hb'.mono (by have := hw5.size; omega)) (Nat.le_refl _)).bytes) hkl hkl).mono ?_)⟩
     rintro e w'' ⟨v, rfl, hb'', rfl⟩
     exact ⟨_, rfl, hb'.trans (hb''.mono hb'.size), by rw [beq_self_eq_true]⟩
   ·rintro vals w' hvl ⟨hb', hC⟩
    match vals, hvl with
    | [v28, v27, v26], _ =>
     simp only [] at hC
     subst hC
     refine qk_thn ?_
     refine wc_no rfl rfl ?_
     repeat (with_reducible first|apply wc_region|apply qk_thn|apply wc_skip|apply qk_in)
     refine wl_add rfl rfl rfl (r := ((j + 1 : Nat) : Int)) (by rw [IntKind.wrap_i64]; omega) ?_
     repeat first|(with_reducible apply wl_nil)|((with_reducible apply ws);exact rfl;exact rfl)
     exact qk_round (j + 1) ⟨rfl, rfl, rfl, rfl, trivial⟩ ⟨by omega, hw45.trans (hb'.mono (by omega))⟩ (by omega)
  ·refine wc_no rfl (by simpa using hjt) ?_
   repeat first|(with_reducible first|apply wc_seq|apply wc_region|apply wl_nil|apply qk_thn|apply wc_ret|apply wc_exit|apply qk_thn_exit|apply qk_in_exit|apply qk_round_exit)|((with_reducible apply ws);exact rfl;exact rfl)
   exact qk_ret1 rfl rfl ⟨_, rfl, hw5, rfl⟩
end
mutual
theorem sam_ok : ∀ t : Tree, SamOK t
 | .mk _ _ _ l _ => sam_of _ (sams_ok l)
theorem sams_ok : ∀ l : List Tree, ∀ x ∈ l, SamOK x
 | [], x, hx => by cases hx
 | y :: l, x, hx => by
  have hy := sam_ok y
  have hl := sams_ok l
  rcases List.mem_cons.1 hx with h0 | h1
  ·rw [h0]; exact hy
  ·exact hl x h1
end
end Go.Proofs.YtgpnpfiafcakfaaDoor.Sam

namespace Go.Proofs.YtgpnpfiafcakfaaDoor
open Go Go.RowKit
section
variable {P : Program} {ops : Array Oper} {Q : Exit → Act → World → Prop} {N : Nat} {rest : List Oper} {L : Sl} {w : World} {d : Nat} {ty : TypeId} {pos : String} {aft : Array Edge} {a : Act} {g : Option (Nat × Bool)}
theorem wl_ifNeErr {x : Operand} {t u s : TypeId} {v : Value} (hx : ev L x = some (.iface s v)) (ht : (match P.underlying t with | some (.interface _) => true | _ => false) = true) (hd : Nat.blt d N = true) (h : WL rest P ops Q N ((d, .bool true) :: L) w) :
  WL (⟨some d, .binOp .neq t x (.const .nilIface) u, ty, pos, aft, none⟩ :: rest) P ops Q N L w := by
 intro a k
 split at ht
 ·rename_i ms hu
  refine st_of (o := ⟨some d, .binOp .neq t x (.const .nilIface) u, ty, pos, aft, none⟩) (v := .bool true) (w' := w) rfl ?_ (h _ (k.put _ hd))
  simp only [execOp, k.eval hx, eval_const]
  have h : ∀ d : Nat, (Op.equalIn (d + 1) t (.iface s v) .nilIface).run P w = .ok false w := fun d => by
   simp [Op.equalIn, run_underlying hu]
  simp only [eqGuard, binOp]
  simp [Op.equal, Op.maxDepth, h 9999]
 ·cases ht
theorem rn_eqlB {x y : Operand} {t u : TypeId} {b c : Bool} (k : Kn N a L) (hx : ev L x = some (.bool b)) (hy : ev L y = some (.bool c)) (ht : P.underlying t = some .bool) : (execOp a.eval ⟨some d, .binOp .eql t x y u, ty, pos, aft, g⟩).run P w = .ok (.value (.bool (b == c))) w := by
 simp only [execOp, k.eval hx, k.eval hy]
 have h : ∀ d : Nat, (Op.equalIn (d + 1) t (.bool b) (.bool c)).run P w = .ok (b == c) w := fun d => by
  simp [Op.equalIn, run_underlying ht]
 simp only [eqGuard, binOp]
 simp [Op.equal, Op.maxDepth, h 9999]
end
def readOkU (P : Program) (K : Kr) (f : Nat) (tg : Bool) (fs : List Fld) (cs : List Value) : Bool := match readFU P K f cs false with
 | some x => litsOk (.n .i16 :: ctP tg fs) x.1 && okAs (.n .i16 :: ctP tg fs) x.2
 | none => false
def Comes (tg : Bool) (fs : List Fld) (dfl : List Value) (acts : List Ra) (xs : List UInt8) : Option Tree → Prop
 | none => rdAs acts (litsD dfl) xs = none
 | some T => ∃ d0 rest r ds', rdAs acts (litsD dfl) xs = some (d0 :: rest, r) ∧ d0.width = 1 ∧ Imp rest ds' ∧ TellP tg fs ds' T ∧ fine T ∧ ∀ T', TellP tg fs ds' T' → T' = T
theorem comes {P : Program} {K : Kr} {f : Nat} {tg : Bool} {fs : List Fld} {cs : List Value} (h : readOkU P K f tg fs cs = true) (hs : readFU P K f cs true = readFU P K f cs false) (hc : covs fs = true) (hk : fsok fs = true) :
  ∃ dfl acts, (∀ ub, readFU P K f cs ub = some (dfl, acts)) ∧ ∀ xs : List UInt8, xs.length ≤ 1000 → ∃ o, Comes tg fs dfl acts xs o := by
 unfold readOkU at h
 split at h
 ·rename_i x hx
  obtain ⟨dfl, acts⟩ := x
  rw [Bool.and_eq_true] at h
  refine ⟨dfl, acts, fun ub => ?_, fun xs hl => ?_⟩
  ·cases ub with
   | false => exact hx
   | true => rw [hs]; exact hx
  ·cases hr : rdAs acts (litsD dfl) xs with
   | none => exact ⟨none, hr⟩
   | some y =>
    obtain ⟨h1, _⟩ := rdAs_typed (M := 1000) acts _ h.2 (litsD dfl) xs y hl (lits_typed h.1) hr
    obtain ⟨ds, r⟩ := y
    simp only [Typeds] at h1
    obtain ⟨d0, rest, rfl, t0, t1⟩ := h1
    obtain ⟨ds', i, T, k1, k2, k3⟩ := told_P (by omega) hc hk t1
    exact ⟨some T, d0, rest, r, ds', hr, t0.unit, i, k1, k2, k3⟩
 ·cases h
end Go.Proofs.YtgpnpfiafcakfaaDoor

namespace Go.Proofs.YtgpnpfiafcakfaaDoor.BDescribeConfigsResponse
open Go Go.RowKit
def sDescribeConfigsResponseResourceConfigConfigSynonym : List Fld := [.mk 8 0 (-1) (-1) (-1) 0 0 [], .mk 8 0 (-1) 0 (-1) 0 0 [], .mk 1 0 (-1) (-1) (-1) 0 0 []]
def sDescribeConfigsResponseResourceConfig : List Fld := [.mk 8 0 (-1) (-1) (-1) 0 0 [], .mk 8 0 (-1) 0 (-1) 0 0 [], .mk 0 0 (-1) (-1) (-1) 0 0 [], .mk 0 0 0 (-1) (-1) 0 0 [], .mk 1 1 (-1) (-1) (-1) (-1) 0 [], .mk 0 0 (-1) (-1) (-1) 0 0 [], .mk 11 1 (-1) (-1) (-1) 0 10 sDescribeConfigsResponseResourceConfigConfigSynonym, .mk 1 3 (-1) (-1) (-1) 0 0 [], .mk 8 3 (-1) 3 (-1) 0 0 []]
def sDescribeConfigsResponseResource : List Fld := [.mk 2 0 (-1) (-1) (-1) 0 0 [], .mk 8 0 (-1) 0 (-1) 0 0 [], .mk 1 0 (-1) (-1) (-1) 0 0 [], .mk 8 0 (-1) (-1) (-1) 0 0 [], .mk 11 0 (-1) (-1) (-1) 0 10 sDescribeConfigsResponseResourceConfig]
def m : Msg := ⟨[.mk 3 0 (-1) (-1) (-1) 0 0 [], .mk 11 0 (-1) (-1) (-1) 0 10 sDescribeConfigsResponseResource], 4⟩
theorem m_ok : fsok m.fields = true := by decide
def most : Nat := 4
def tbl : Tbl := ⟨[(57, 0, 0)], [22]⟩
theorem tbl_ok : tbl.ok Tryd.prog = true := by kernel_rfl
theorem ws {ops : Array Oper} {Q : Exit → Act → World → Prop} {N : Nat} {rest : List Oper} {L : Sl} {w : World} {d : Nat} {ty : TypeId} {pos : String} {aft : Array Edge} {o : Op} {v : Value}
  (hs : stepOp tbl L o = some v) (hd : Nat.blt d N = true) (h : WL rest Tryd.prog ops Q N ((d, v) :: L) w) : WL (⟨some d, o, ty, pos, aft, none⟩ :: rest) Tryd.prog ops Q N L w := wl_step tbl tbl_ok hs hd h
theorem to_i16 : tyOne Tryd.prog 38 = true := by kernel_rfl
section
set_option maxRecDepth 100000
set_option maxHeartbeats 4000000
noncomputable def z0 : List Value := match Tryd.prog.info? 57 with | some i => (match i.zero with | some z => z.cells.toList | none => []) | none => []
noncomputable def d0 : List Value := match (defF Tryd.prog 17).bind fun l => setAll l z0 with | some cs => cs | none => []
noncomputable def cs0 (ver : Int) : List Value := .int .i16 ver :: d0.drop 1
theorem d0_eq : (defF Tryd.prog 17).bind (fun l => setAll l z0) = some d0 := by kernel_rfl
theorem d0_hd : d0 = .int .i16 0 :: d0.drop 1 := by kernel_rfl
theorem zv (w : World) : (zeroValue 57).run Tryd.prog w = .ok (.agg z0.toArray) w := by kernel_rfl
theorem fn_new (w : World) : Calls Tryd.prog 10 #[] w fun e w' => e = .returned (.pointer (some ⟨w.heap.size, 0, none⟩)) ∧ Box w' w.heap.size d0 57 ∧ Below w.heap.size w w' := by
 obtain ⟨l, hl, hset⟩ := Option.bind_eq_some_iff.1 d0_eq
 refine enter (vs := []) Tryd.func10 rfl Tryd.ntmps10 rfl ?_
 repeat first|(with_reducible first|apply wc_seq|apply wc_region|apply wl_nil|apply qk_thn)|((with_reducible apply ws);exact rfl;exact rfl)
 refine wl_alloc zv rfl rfl (fun w1 hb1 hg1 hs1 => ?_)
 repeat (with_reducible first|apply wc_seq|apply wc_region|apply wl_nil|apply qk_thn)
 have hdef := defF_ok (w := w1) hl (b := w.heap.size) (pre := []) (cs := z0) (post := []) (cs' := d0) (e := 57) (by simpa using hb1) hset
 refine wl_call rfl hdef.1 rfl (hdef.2.mono ?_)
 rintro e w2 ⟨rfl, hb2, hc2⟩
 refine ⟨_, rfl, ?_⟩
 repeat first|(with_reducible first|apply wc_seq|apply wc_region|apply wl_nil|apply qk_thn|apply wc_ret)|((with_reducible apply ws);exact rfl;exact rfl)
 exact qk_ret1 rfl rfl ⟨rfl, by simpa using hb2, (below_of hg1 (Nat.le_refl _) (by simp)).trans (chg_below hc2 (fun j hj h => by have : j = w.heap.size := h; omega) (by omega))⟩
theorem fn_max (w : World) : Calls Tryd.prog 4 #[] w fun e w' => e = .returned (.int .i64 (most : Int)) ∧ Below w.heap.size w w' := by
 refine enter (vs := []) Tryd.func4 rfl Tryd.ntmps4 rfl ?_
 repeat first|(with_reducible first|apply wc_seq|apply wc_region|apply wl_nil|apply qk_thn)|((with_reducible apply ws);exact rfl;exact rfl)
 refine wl_call rfl (by kernel_rfl) rfl ((fn_new w).mono ?_)
 rintro e w1 ⟨rfl, hb1, hw1⟩
 refine ⟨_, rfl, ?_⟩
 skip
 have hmax : Calls Tryd.prog 11 #[.pointer (some ⟨w.heap.size, 0, none⟩)] w1 fun e w' => e = .returned (.int .i16 (most : Int)) ∧ w' = w1 := by
  refine enter (vs := [.pointer (some ⟨w.heap.size, 0, none⟩)]) Tryd.func11 rfl Tryd.ntmps11 rfl ?_
  repeat first|(with_reducible first|apply wc_seq|apply wc_region|apply wl_nil|apply qk_thn|apply wc_ret)|((with_reducible apply ws);exact rfl;exact rfl)
  exact qk_ret1 rfl rfl ⟨rfl, rfl⟩
 refine wl_call rfl (by kernel_rfl) rfl ((hmax).mono ?_)
 rintro e w2 ⟨rfl, rfl⟩
 refine ⟨_, rfl, ?_⟩
 refine wl_conv .i64 rfl ti_i16 ti_i64 rfl (r := (most : Int)) rfl ?_
 repeat first|(with_reducible first|apply wl_nil|apply qk_thn|apply wc_ret)|((with_reducible apply ws);exact rfl;exact rfl)
 exact qk_ret1 rfl rfl ⟨rfl, hw1⟩
theorem fn_set (w : World) (b : Nat) (x : Value) (r : List Value) (ver : Int) (hb : Box w b (x :: r) 57) : Calls Tryd.prog 12 #[.pointer (some ⟨b, 0, none⟩), .int .i16 ver] w fun e w' => e = .returned (.tuple #[]) ∧ Box w' b (.int .i16 ver :: r) 57 ∧ w.grownBy w' (some b) := by
 refine enter (vs := [.pointer (some ⟨b, 0, none⟩), .int .i16 ver]) Tryd.func12 rfl Tryd.ntmps12 rfl ?_
 repeat first|(with_reducible apply wc_region)|((with_reducible apply ws);exact rfl;exact rfl)
 refine wl_storeB (i := 0) rfl rfl to_i16 rfl hb rfl (fun w1 hb1 hg1 _ => ?_)
 exact wl_nil (qk_end0 rfl ⟨rfl, hb1, hg1⟩)
theorem cov_m : covs m.fields = true := by decide
theorem rd_all : (List.range (most + 1)).all (fun v => readOkU Tryd.prog Rdk.kru 18 true m.fields (cs0 (v : Int))) = true := by kernel_rfl
theorem rd_one : ∀ v : Nat, v ≤ most → readFU Tryd.prog Rdk.kru 18 (cs0 (v : Int)) true = readFU Tryd.prog Rdk.kru 18 (cs0 (v : Int)) false
 | 0, _ => by kernel_rfl
 | 1, _ => by kernel_rfl
 | 2, _ => by kernel_rfl
 | 3, _ => by kernel_rfl
 | 4, _ => by kernel_rfl
 | n + 5, h => absurd h (by simp only [most]; omega)
theorem rd (v : Nat) (h : v ≤ most) : ∃ dfl acts, (∀ ub, readFU Tryd.prog Rdk.kru 18 (cs0 (v : Int)) ub = some (dfl, acts)) ∧ ∀ xs : List UInt8, xs.length ≤ 1000 → ∃ o, Comes true m.fields dfl acts xs o :=
 comes (List.all_eq_true.1 rd_all v (List.mem_range.2 (by omega))) (rd_one v h) cov_m m_ok
theorem fo_t4 : fieldOff Tryd.prog 27 4 = some 4 := by kernel_rfl
set_option maxHeartbeats 4000000 in
theorem clo_DescribeConfigsResponseResourceConfigConfigSynonym : ClC Tryd.prog 27 51 63 := by
 refine ⟨by kernel_rfl, fun w lo tb B hd d us k s val hU hhd hval hBt hk hs hmany => ?_⟩
 obtain ⟨a0, a1, a2, a3, rfl⟩ : ∃ a0 a1 a2 a3, hd = [a0, a1, a2, a3] := by
  match hd, hhd with
  | [a0, a1, a2, a3], _ => exact ⟨a0, a1, a2, a3, rfl⟩
 have hsq : Sq B w val (s.map byteD) := hval
 obtain ⟨va, vc, rfl, _⟩ := hsq.shape
 obtain ⟨da, dc, hds⟩ := hU.row.shape
 have hlo := hU.lt
 have hlw := hU.low
 have hdl := hU.row.low
 have hbx0 : Box w tb [a0, a1, a2, a3, d] 27 := hU.box
 refine enter (vs := [.int .u32 (k : Int), .slice va (s.map byteD).length vc, .pointer (some ⟨tb, 0, none⟩)]) Tryd.func63 rfl Tryd.ntmps63 rfl ?_
 refine wc_parS [(0, .pointer (some ⟨tb, 0 + 4, none⟩)), (1, d), (2, .int .u32 (k : Int)), (3, .slice va (s.map byteD).length vc), (8, .pointer (some ⟨tb, 0 + 4, none⟩))] [9, 7, 6, 5, 4]
  (fun vals w' => match vals with
   | [] => Chg (fun _ => False) w w'
   | [v] => Chg (fun _ => False) w w' ∧ (∃ a n c, v = .slice a n c) ∧ Rep (In 0 w.heap.size w') w' (bytesD s) [v]
   | [v, _] => Chg (fun _ => False) w w' ∧ ∃ sv, (∃ a n c, sv = .slice a n c) ∧ v = .agg ([.int .u32 (k : Int), sv] : List Value).toArray ∧ Rep (In 0 w.heap.size w') w' (bytesD s) [sv]
   | [v, _, _] => Chg (fun _ => False) w w' ∧ ∃ (b8 : Nat) (sv : Value), (∃ a n c, sv = .slice a n c) ∧ v = .slice (some ⟨b8, 0, none⟩) 1 1 ∧ Box w' b8 [.int .u32 (k : Int), sv] 51 ∧ Rep (In 0 w.heap.size w') w' (bytesD s) [sv]
   | [v, _, _, _] => Chg (fun j => d.ownBlock = some j) w w' ∧ Box w' tb [a0, a1, a2, a3, d] 27 ∧ RowD 0 lo tb 51 2 w' v ((us ++ [(k, s)]).map tagD)
   | _ :: v :: _ => Chg (fun j => j = tb ∨ d.ownBlock = some j) w w' ∧ Box w' tb [a0, a1, a2, a3, v] 27 ∧ RowD 0 lo tb 51 2 w' v ((us ++ [(k, s)]).map tagD))
  mixed rfl rfl rfl rfl rfl (by show ([0,1,2,3,8] : List Nat).Nodup; decide) rfl rfl (by decide) rfl rfl rfl rfl (chg_drew _ _) ?_ ⟨?_, ?_, ?_, ?_, ?_, trivial⟩ ?_
 ·intro p hp vals w' hC hnp a kn
  simp only [List.mem_cons, List.not_mem_nil, or_false] at hp
  rcases hp with rfl | rfl | rfl | rfl | rfl
  ·exact gv rfl rfl (rn_fieldAddr kn rfl fo_t4)
  ·have hbx : Box w' tb [a0, a1, a2, a3, d] 27 := by
    match vals, hC, hnp with
    | [], h, _ => exact hbx0.chg h (fun h => h)
    | [_], h, _ => exact hbx0.chg h.1 (fun h => h)
    | [_, _], h, _ => exact hbx0.chg h.1 (fun h => h)
    | [_, _, _], h, _ => exact hbx0.chg h.1 (fun h => h)
    | [_, _, _, _], h, _ => exact h.2.1
    | _ :: _ :: _ :: _ :: _ :: r, _, hnp =>
     have := hnp 9 (by rw [show ([9, 7, 6, 5, 4] : List Nat).length - (_ :: _ :: _ :: _ :: _ :: r).length = 0 from by simp only [List.length_cons, List.length_nil]; omega]; simp)
     exact absurd (show true = false from this) (by simp)
   exact gv rfl rfl (rn_load kn rfl Impl.to_tags (hbx.cell0 (i := 4) rfl))
  ·exact gv rfl rfl (rn_move kn rfl)
  ·exact gv rfl rfl (rn_move kn rfl)
  ·exact gv rfl rfl (rn_fieldAddr kn rfl fo_t4)
 ·rintro vals w' hvl hC a kn
  match vals, hvl with
  | [v7, v6, v5, v4], _ =>
   obtain ⟨hc, hbx, hrd⟩ := hC
   obtain ⟨a7, c7, rfl⟩ := hrd.shape
   refine ⟨_, rfl, does_storeB kn rfl rfl Impl.to_tags rfl hbx rfl (fun w'' hbx'' hg'' hs'' => ⟨?_, hbx'', hrd.stored hg''⟩)⟩
   exact (hc.wide (fun j h => .inr h)).trans ((Chg.grown hg'').wide (fun j h => .inl h))
 ·rintro vals w' hvl hC a kn
  match vals, hvl with
  | [v6, v5, v4], _ =>
   obtain ⟨hc, b8, sv, ⟨sa, sn, sc, rfl⟩, rfl, hb8, hrep⟩ := hC
   have hsz := hc.size
   have hrdw := hU.row.below ⟨hc.os, hc.tape, hc.output, hc.size, fun j hj => hc.block j hj (fun h => h)⟩
   obtain ⟨xs0, hrow0, hreps0⟩ := hrdw.row
   refine ⟨_, rfl, does_app1 kn Impl.rt_tags rfl rfl hb8 rfl rfl hrow0 (by omega) (by simp only [List.length_map]; omega) (fun d' w'' hrow'' hg'' => ⟨?_, ?_, ?_⟩)⟩
   ·have h2 : Chg (fun j => d.ownBlock = some j) w' w'' := ⟨hg''.grown.os, hg''.grown.tape, hg''.grown.output, hg''.grown.size, fun j hj hn => hg''.grown.block j hj (fun e => hn e.symm)⟩
    exact (hc.wide (fun j h => h.elim)).trans h2
   ·have hb := hbx0.chg hc (fun h => h)
    exact hb.kept hg''.grown (fun e => hU.row.apart e.symm)
   ·rw [List.map_append, List.map_cons, List.map_nil]
    refine hrdw.snoc (by omega) (by have := hbx0.lt; omega) hreps0 ?_ hrow'' hg''
    simp only [tagD, Rep, Reps]
    refine ⟨[_], _, rfl, rfl, [_], _, rfl, ?_, rfl⟩
    refine hrep.up (fun r hr => ⟨.inr (by rcases hr.1 with h | h; exact absurd h (Nat.not_lt_zero _); omega), hr.2, ?_, fun e => ?_⟩) (fun _ _ => rfl)
    ·rcases hr.1 with h | h
     ·exact absurd h (Nat.not_lt_zero _)
     ·have := hbx0.lt; omega
    ·rcases hr.1 with h | h
     ·exact absurd h (Nat.not_lt_zero _)
     ·have := (hdl r e).2; omega
 ·rintro vals w' hvl hC a kn
  match vals, hvl with
  | [v5, v4], _ =>
   obtain ⟨hc, sv, ⟨sa, sn, sc, rfl⟩, rfl, hrep⟩ := hC
   have hga := grown_alloc w' (.cells ([.int .u32 (k : Int), .slice sa sn sc] : List Value).toArray 51)
   refine ⟨_, rfl, does_slice1 (cs := [.int .u32 (k : Int), .slice sa sn sc]) kn Impl.rt_tags rfl rfl rfl rfl ⟨hc.trans (Chg.grown0 hga), _, _, ⟨sa, sn, sc, rfl⟩, rfl, box_alloc _ _ _, hrep.up (fun r hr => ⟨hr.1, by have := hr.2; simp; omega⟩) (fun r hr => hga.block r hr.2 (by simp))⟩⟩
 ·rintro vals w' hvl hC a kn
  match vals, hvl with
  | [v4], _ =>
   obtain ⟨hc, ⟨sa, sn, sc, rfl⟩, hrep⟩ := hC
   exact ⟨_, rfl, does_build (ps := [(0, .tmp 7), (1, .tmp 9)]) (cs := [.int .u32 (k : Int), .slice sa sn sc]) kn rfl (by kernel_rfl) ⟨hc, _, ⟨sa, sn, sc, rfl⟩, rfl, hrep⟩⟩
 ·rintro vals w' hvl hC a kn
  match vals, hvl with
  | [], _ =>
   have hsb : BytesAt w' (.slice va (s.map byteD).length vc) s := hsq.bytes.below ⟨hC.os, hC.tape, hC.output, hC.size, fun j hj => hC.block j hj (fun h => h)⟩
   refine ⟨_, rfl, does_appSl kn tb_bytes tb_bytes rfl rfl hsb (Own.nil w' w'.heap.size 5) (Nat.le_refl _) (by simpa using hs) (fun d' w'' ho hg => ?_)⟩
   rw [List.nil_append] at ho
   obtain ⟨oa, oc, rfl⟩ := ho.shape
   refine ⟨hC.trans (Chg.grown0 hg.grown), ⟨_, _, _, rfl⟩, own_rep (l0 := w.heap.size) ho hC.size⟩
 ·rintro vals w' hvl hC
  match vals, hvl with
  | [v9, v7, v6, v5, v4], _ =>
   obtain ⟨hc, hbx, hrd⟩ := hC
   exact qk_end0 rfl ⟨rfl, v7, ⟨hbx, hrd, hlo, by have := hc.size; omega⟩, hc⟩
set_option maxHeartbeats 4000000 in
theorem clo_DescribeConfigsResponseResourceConfig : ClC Tryd.prog 27 51 56 := by
 refine ⟨by kernel_rfl, fun w lo tb B hd d us k s val hU hhd hval hBt hk hs hmany => ?_⟩
 obtain ⟨a0, a1, a2, a3, rfl⟩ : ∃ a0 a1 a2 a3, hd = [a0, a1, a2, a3] := by
  match hd, hhd with
  | [a0, a1, a2, a3], _ => exact ⟨a0, a1, a2, a3, rfl⟩
 have hsq : Sq B w val (s.map byteD) := hval
 obtain ⟨va, vc, rfl, _⟩ := hsq.shape
 obtain ⟨da, dc, hds⟩ := hU.row.shape
 have hlo := hU.lt
 have hlw := hU.low
 have hdl := hU.row.low
 have hbx0 : Box w tb [a0, a1, a2, a3, d] 27 := hU.box
 refine enter (vs := [.int .u32 (k : Int), .slice va (s.map byteD).length vc, .pointer (some ⟨tb, 0, none⟩)]) Tryd.func56 rfl Tryd.ntmps56 rfl ?_
 refine wc_parS [(0, .pointer (some ⟨tb, 0 + 4, none⟩)), (1, d), (2, .int .u32 (k : Int)), (3, .slice va (s.map byteD).length vc), (8, .pointer (some ⟨tb, 0 + 4, none⟩))] [9, 7, 6, 5, 4]
  (fun vals w' => match vals with
   | [] => Chg (fun _ => False) w w'
   | [v] => Chg (fun _ => False) w w' ∧ (∃ a n c, v = .slice a n c) ∧ Rep (In 0 w.heap.size w') w' (bytesD s) [v]
   | [v, _] => Chg (fun _ => False) w w' ∧ ∃ sv, (∃ a n c, sv = .slice a n c) ∧ v = .agg ([.int .u32 (k : Int), sv] : List Value).toArray ∧ Rep (In 0 w.heap.size w') w' (bytesD s) [sv]
   | [v, _, _] => Chg (fun _ => False) w w' ∧ ∃ (b8 : Nat) (sv : Value), (∃ a n c, sv = .slice a n c) ∧ v = .slice (some ⟨b8, 0, none⟩) 1 1 ∧ Box w' b8 [.int .u32 (k : Int), sv] 51 ∧ Rep (In 0 w.heap.size w') w' (bytesD s) [sv]
   | [v, _, _, _] => Chg (fun j => d.ownBlock = some j) w w' ∧ Box w' tb [a0, a1, a2, a3, d] 27 ∧ RowD 0 lo tb 51 2 w' v ((us ++ [(k, s)]).map tagD)
   | _ :: v :: _ => Chg (fun j => j = tb ∨ d.ownBlock = some j) w w' ∧ Box w' tb [a0, a1, a2, a3, v] 27 ∧ RowD 0 lo tb 51 2 w' v ((us ++ [(k, s)]).map tagD))
  mixed rfl rfl rfl rfl rfl (by show ([0,1,2,3,8] : List Nat).Nodup; decide) rfl rfl (by decide) rfl rfl rfl rfl (chg_drew _ _) ?_ ⟨?_, ?_, ?_, ?_, ?_, trivial⟩ ?_
 ·intro p hp vals w' hC hnp a kn
  simp only [List.mem_cons, List.not_mem_nil, or_false] at hp
  rcases hp with rfl | rfl | rfl | rfl | rfl
  ·exact gv rfl rfl (rn_fieldAddr kn rfl fo_t4)
  ·have hbx : Box w' tb [a0, a1, a2, a3, d] 27 := by
    match vals, hC, hnp with
    | [], h, _ => exact hbx0.chg h (fun h => h)
    | [_], h, _ => exact hbx0.chg h.1 (fun h => h)
    | [_, _], h, _ => exact hbx0.chg h.1 (fun h => h)
    | [_, _, _], h, _ => exact hbx0.chg h.1 (fun h => h)
    | [_, _, _, _], h, _ => exact h.2.1
    | _ :: _ :: _ :: _ :: _ :: r, _, hnp =>
     have := hnp 9 (by rw [show ([9, 7, 6, 5, 4] : List Nat).length - (_ :: _ :: _ :: _ :: _ :: r).length = 0 from by simp only [List.length_cons, List.length_nil]; omega]; simp)
     exact absurd (show true = false from this) (by simp)
   exact gv rfl rfl (rn_load kn rfl Impl.to_tags (hbx.cell0 (i := 4) rfl))
  ·exact gv rfl rfl (rn_move kn rfl)
  ·exact gv rfl rfl (rn_move kn rfl)
  ·exact gv rfl rfl (rn_fieldAddr kn rfl fo_t4)
 ·rintro vals w' hvl hC a kn
  match vals, hvl with
  | [v7, v6, v5, v4], _ =>
   obtain ⟨hc, hbx, hrd⟩ := hC
   obtain ⟨a7, c7, rfl⟩ := hrd.shape
   refine ⟨_, rfl, does_storeB kn rfl rfl Impl.to_tags rfl hbx rfl (fun w'' hbx'' hg'' hs'' => ⟨?_, hbx'', hrd.stored hg''⟩)⟩
   exact (hc.wide (fun j h => .inr h)).trans ((Chg.grown hg'').wide (fun j h => .inl h))
 ·rintro vals w' hvl hC a kn
  match vals, hvl with
  | [v6, v5, v4], _ =>
   obtain ⟨hc, b8, sv, ⟨sa, sn, sc, rfl⟩, rfl, hb8, hrep⟩ := hC
   have hsz := hc.size
   have hrdw := hU.row.below ⟨hc.os, hc.tape, hc.output, hc.size, fun j hj => hc.block j hj (fun h => h)⟩
   obtain ⟨xs0, hrow0, hreps0⟩ := hrdw.row
   refine ⟨_, rfl, does_app1 kn Impl.rt_tags rfl rfl hb8 rfl rfl hrow0 (by omega) (by simp only [List.length_map]; omega) (fun d' w'' hrow'' hg'' => ⟨?_, ?_, ?_⟩)⟩
   ·have h2 : Chg (fun j => d.ownBlock = some j) w' w'' := ⟨hg''.grown.os, hg''.grown.tape, hg''.grown.output, hg''.grown.size, fun j hj hn => hg''.grown.block j hj (fun e => hn e.symm)⟩
    exact (hc.wide (fun j h => h.elim)).trans h2
   ·have hb := hbx0.chg hc (fun h => h)
    exact hb.kept hg''.grown (fun e => hU.row.apart e.symm)
   ·rw [List.map_append, List.map_cons, List.map_nil]
    refine hrdw.snoc (by omega) (by have := hbx0.lt; omega) hreps0 ?_ hrow'' hg''
    simp only [tagD, Rep, Reps]
    refine ⟨[_], _, rfl, rfl, [_], _, rfl, ?_, rfl⟩
    refine hrep.up (fun r hr => ⟨.inr (by rcases hr.1 with h | h; exact absurd h (Nat.not_lt_zero _); omega), hr.2, ?_, fun e => ?_⟩) (fun _ _ => rfl)
    ·rcases hr.1 with h | h
     ·exact absurd h (Nat.not_lt_zero _)
     ·have := hbx0.lt; omega
    ·rcases hr.1 with h | h
     ·exact absurd h (Nat.not_lt_zero _)
     ·have := (hdl r e).2; omega
 ·rintro vals w' hvl hC a kn
  match vals, hvl with
  | [v5, v4], _ =>
   obtain ⟨hc, sv, ⟨sa, sn, sc, rfl⟩, rfl, hrep⟩ := hC
   have hga := grown_alloc w' (.cells ([.int .u32 (k : Int), .slice sa sn sc] : List Value).toArray 51)
   refine ⟨_, rfl, does_slice1 (cs := [.int .u32 (k : Int), .slice sa sn sc]) kn Impl.rt_tags rfl rfl rfl rfl ⟨hc.trans (Chg.grown0 hga), _, _, ⟨sa, sn, sc, rfl⟩, rfl, box_alloc _ _ _, hrep.up (fun r hr => ⟨hr.1, by have := hr.2; simp; omega⟩) (fun r hr => hga.block r hr.2 (by simp))⟩⟩
 ·rintro vals w' hvl hC a kn
  match vals, hvl with
  | [v4], _ =>
   obtain ⟨hc, ⟨sa, sn, sc, rfl⟩, hrep⟩ := hC
   exact ⟨_, rfl, does_build (ps := [(0, .tmp 7), (1, .tmp 9)]) (cs := [.int .u32 (k : Int), .slice sa sn sc]) kn rfl (by kernel_rfl) ⟨hc, _, ⟨sa, sn, sc, rfl⟩, rfl, hrep⟩⟩
 ·rintro vals w' hvl hC a kn
  match vals, hvl with
  | [], _ =>
   have hsb : BytesAt w' (.slice va (s.map byteD).length vc) s := hsq.bytes.below ⟨hC.os, hC.tape, hC.output, hC.size, fun j hj => hC.block j hj (fun h => h)⟩
   refine ⟨_, rfl, does_appSl kn tb_bytes tb_bytes rfl rfl hsb (Own.nil w' w'.heap.size 5) (Nat.le_refl _) (by simpa using hs) (fun d' w'' ho hg => ?_)⟩
   rw [List.nil_append] at ho
   obtain ⟨oa, oc, rfl⟩ := ho.shape
   refine ⟨hC.trans (Chg.grown0 hg.grown), ⟨_, _, _, rfl⟩, own_rep (l0 := w.heap.size) ho hC.size⟩
 ·rintro vals w' hvl hC
  match vals, hvl with
  | [v9, v7, v6, v5, v4], _ =>
   obtain ⟨hc, hbx, hrd⟩ := hC
   exact qk_end0 rfl ⟨rfl, v7, ⟨hbx, hrd, hlo, by have := hc.size; omega⟩, hc⟩
set_option maxHeartbeats 4000000 in
theorem clo_DescribeConfigsResponseResource : ClC Tryd.prog 27 51 45 := by
 refine ⟨by kernel_rfl, fun w lo tb B hd d us k s val hU hhd hval hBt hk hs hmany => ?_⟩
 obtain ⟨a0, a1, a2, a3, rfl⟩ : ∃ a0 a1 a2 a3, hd = [a0, a1, a2, a3] := by
  match hd, hhd with
  | [a0, a1, a2, a3], _ => exact ⟨a0, a1, a2, a3, rfl⟩
 have hsq : Sq B w val (s.map byteD) := hval
 obtain ⟨va, vc, rfl, _⟩ := hsq.shape
 obtain ⟨da, dc, hds⟩ := hU.row.shape
 have hlo := hU.lt
 have hlw := hU.low
 have hdl := hU.row.low
 have hbx0 : Box w tb [a0, a1, a2, a3, d] 27 := hU.box
 refine enter (vs := [.int .u32 (k : Int), .slice va (s.map byteD).length vc, .pointer (some ⟨tb, 0, none⟩)]) Tryd.func45 rfl Tryd.ntmps45 rfl ?_
 refine wc_parS [(0, .pointer (some ⟨tb, 0 + 4, none⟩)), (1, d), (2, .int .u32 (k : Int)), (3, .slice va (s.map byteD).length vc), (8, .pointer (some ⟨tb, 0 + 4, none⟩))] [9, 7, 6, 5, 4]
  (fun vals w' => match vals with
   | [] => Chg (fun _ => False) w w'
   | [v] => Chg (fun _ => False) w w' ∧ (∃ a n c, v = .slice a n c) ∧ Rep (In 0 w.heap.size w') w' (bytesD s) [v]
   | [v, _] => Chg (fun _ => False) w w' ∧ ∃ sv, (∃ a n c, sv = .slice a n c) ∧ v = .agg ([.int .u32 (k : Int), sv] : List Value).toArray ∧ Rep (In 0 w.heap.size w') w' (bytesD s) [sv]
   | [v, _, _] => Chg (fun _ => False) w w' ∧ ∃ (b8 : Nat) (sv : Value), (∃ a n c, sv = .slice a n c) ∧ v = .slice (some ⟨b8, 0, none⟩) 1 1 ∧ Box w' b8 [.int .u32 (k : Int), sv] 51 ∧ Rep (In 0 w.heap.size w') w' (bytesD s) [sv]
   | [v, _, _, _] => Chg (fun j => d.ownBlock = some j) w w' ∧ Box w' tb [a0, a1, a2, a3, d] 27 ∧ RowD 0 lo tb 51 2 w' v ((us ++ [(k, s)]).map tagD)
   | _ :: v :: _ => Chg (fun j => j = tb ∨ d.ownBlock = some j) w w' ∧ Box w' tb [a0, a1, a2, a3, v] 27 ∧ RowD 0 lo tb 51 2 w' v ((us ++ [(k, s)]).map tagD))
  mixed rfl rfl rfl rfl rfl (by show ([0,1,2,3,8] : List Nat).Nodup; decide) rfl rfl (by decide) rfl rfl rfl rfl (chg_drew _ _) ?_ ⟨?_, ?_, ?_, ?_, ?_, trivial⟩ ?_
 ·intro p hp vals w' hC hnp a kn
  simp only [List.mem_cons, List.not_mem_nil, or_false] at hp
  rcases hp with rfl | rfl | rfl | rfl | rfl
  ·exact gv rfl rfl (rn_fieldAddr kn rfl fo_t4)
  ·have hbx : Box w' tb [a0, a1, a2, a3, d] 27 := by
    match vals, hC, hnp with
    | [], h, _ => exact hbx0.chg h (fun h => h)
    | [_], h, _ => exact hbx0.chg h.1 (fun h => h)
    | [_, _], h, _ => exact hbx0.chg h.1 (fun h => h)
    | [_, _, _], h, _ => exact hbx0.chg h.1 (fun h => h)
    | [_, _, _, _], h, _ => exact h.2.1
    | _ :: _ :: _ :: _ :: _ :: r, _, hnp =>
     have := hnp 9 (by rw [show ([9, 7, 6, 5, 4] : List Nat).length - (_ :: _ :: _ :: _ :: _ :: r).length = 0 from by simp only [List.length_cons, List.length_nil]; omega]; simp)
     exact absurd (show true = false from this) (by simp)
   exact gv rfl rfl (rn_load kn rfl Impl.to_tags (hbx.cell0 (i := 4) rfl))
  ·exact gv rfl rfl (rn_move kn rfl)
  ·exact gv rfl rfl (rn_move kn rfl)
  ·exact gv rfl rfl (rn_fieldAddr kn rfl fo_t4)
 ·rintro vals w' hvl hC a kn
  match vals, hvl with
  | [v7, v6, v5, v4], _ =>
   obtain ⟨hc, hbx, hrd⟩ := hC
   obtain ⟨a7, c7, rfl⟩ := hrd.shape
   refine ⟨_, rfl, does_storeB kn rfl rfl Impl.to_tags rfl hbx rfl (fun w'' hbx'' hg'' hs'' => ⟨?_, hbx'', hrd.stored hg''⟩)⟩
   exact (hc.wide (fun j h => .inr h)).trans ((Chg.grown hg'').wide (fun j h => .inl h))
 ·rintro vals w' hvl hC a kn
  match vals, hvl with
  | [v6, v5, v4], _ =>
   obtain ⟨hc, b8, sv, ⟨sa, sn, sc, rfl⟩, rfl, hb8, hrep⟩ := hC
   have hsz := hc.size
   have hrdw := hU.row.below ⟨hc.os, hc.tape, hc.output, hc.size, fun j hj => hc.block j hj (fun h => h)⟩
   obtain ⟨xs0, hrow0, hreps0⟩ := hrdw.row
   refine ⟨_, rfl, does_app1 kn Impl.rt_tags rfl rfl hb8 rfl rfl hrow0 (by omega) (by simp only [List.length_map]; omega) (fun d' w'' hrow'' hg'' => ⟨?_, ?_, ?_⟩)⟩
   ·have h2 : Chg (fun j => d.ownBlock = some j) w' w'' := ⟨hg''.grown.os, hg''.grown.tape, hg''.grown.output, hg''.grown.size, fun j hj hn => hg''.grown.block j hj (fun e => hn e.symm)⟩
    exact (hc.wide (fun j h => h.elim)).trans h2
   ·have hb := hbx0.chg hc (fun h => h)
    exact hb.kept hg''.grown (fun e => hU.row.apart e.symm)
   ·rw [List.map_append, List.map_cons, List.map_nil]
    refine hrdw.snoc (by omega) (by have := hbx0.lt; omega) hreps0 ?_ hrow'' hg''
    simp only [tagD, Rep, Reps]
    refine ⟨[_], _, rfl, rfl, [_], _, rfl, ?_, rfl⟩
    refine hrep.up (fun r hr => ⟨.inr (by rcases hr.1 with h | h; exact absurd h (Nat.not_lt_zero _); omega), hr.2, ?_, fun e => ?_⟩) (fun _ _ => rfl)
    ·rcases hr.1 with h | h
     ·exact absurd h (Nat.not_lt_zero _)
     ·have := hbx0.lt; omega
    ·rcases hr.1 with h | h
     ·exact absurd h (Nat.not_lt_zero _)
     ·have := (hdl r e).2; omega
 ·rintro vals w' hvl hC a kn
  match vals, hvl with
  | [v5, v4], _ =>
   obtain ⟨hc, sv, ⟨sa, sn, sc, rfl⟩, rfl, hrep⟩ := hC
   have hga := grown_alloc w' (.cells ([.int .u32 (k : Int), .slice sa sn sc] : List Value).toArray 51)
   refine ⟨_, rfl, does_slice1 (cs := [.int .u32 (k : Int), .slice sa sn sc]) kn Impl.rt_tags rfl rfl rfl rfl ⟨hc.trans (Chg.grown0 hga), _, _, ⟨sa, sn, sc, rfl⟩, rfl, box_alloc _ _ _, hrep.up (fun r hr => ⟨hr.1, by have := hr.2; simp; omega⟩) (fun r hr => hga.block r hr.2 (by simp))⟩⟩
 ·rintro vals w' hvl hC a kn
  match vals, hvl with
  | [v4], _ =>
   obtain ⟨hc, ⟨sa, sn, sc, rfl⟩, hrep⟩ := hC
   exact ⟨_, rfl, does_build (ps := [(0, .tmp 7), (1, .tmp 9)]) (cs := [.int .u32 (k : Int), .slice sa sn sc]) kn rfl (by kernel_rfl) ⟨hc, _, ⟨sa, sn, sc, rfl⟩, rfl, hrep⟩⟩
 ·rintro vals w' hvl hC a kn
  match vals, hvl with
  | [], _ =>
   have hsb : BytesAt w' (.slice va (s.map byteD).length vc) s := hsq.bytes.below ⟨hC.os, hC.tape, hC.output, hC.size, fun j hj => hC.block j hj (fun h => h)⟩
   refine ⟨_, rfl, does_appSl kn tb_bytes tb_bytes rfl rfl hsb (Own.nil w' w'.heap.size 5) (Nat.le_refl _) (by simpa using hs) (fun d' w'' ho hg => ?_)⟩
   rw [List.nil_append] at ho
   obtain ⟨oa, oc, rfl⟩ := ho.shape
   refine ⟨hC.trans (Chg.grown0 hg.grown), ⟨_, _, _, rfl⟩, own_rep (l0 := w.heap.size) ho hC.size⟩
 ·rintro vals w' hvl hC
  match vals, hvl with
  | [v9, v7, v6, v5, v4], _ =>
   obtain ⟨hc, hbx, hrd⟩ := hC
   exact qk_end0 rfl ⟨rfl, v7, ⟨hbx, hrd, hlo, by have := hc.size; omega⟩, hc⟩
set_option maxHeartbeats 4000000 in
theorem clo_DescribeConfigsResponse : ClC Tryd.prog 27 51 21 := by
 refine ⟨by kernel_rfl, fun w lo tb B hd d us k s val hU hhd hval hBt hk hs hmany => ?_⟩
 obtain ⟨a0, a1, a2, a3, rfl⟩ : ∃ a0 a1 a2 a3, hd = [a0, a1, a2, a3] := by
  match hd, hhd with
  | [a0, a1, a2, a3], _ => exact ⟨a0, a1, a2, a3, rfl⟩
 have hsq : Sq B w val (s.map byteD) := hval
 obtain ⟨va, vc, rfl, _⟩ := hsq.shape
 obtain ⟨da, dc, hds⟩ := hU.row.shape
 have hlo := hU.lt
 have hlw := hU.low
 have hdl := hU.row.low
 have hbx0 : Box w tb [a0, a1, a2, a3, d] 27 := hU.box
 refine enter (vs := [.int .u32 (k : Int), .slice va (s.map byteD).length vc, .pointer (some ⟨tb, 0, none⟩)]) Tryd.func21 rfl Tryd.ntmps21 rfl ?_
 refine wc_parS [(0, .pointer (some ⟨tb, 0 + 4, none⟩)), (1, d), (2, .int .u32 (k : Int)), (3, .slice va (s.map byteD).length vc), (8, .pointer (some ⟨tb, 0 + 4, none⟩))] [9, 7, 6, 5, 4]
  (fun vals w' => match vals with
   | [] => Chg (fun _ => False) w w'
   | [v] => Chg (fun _ => False) w w' ∧ (∃ a n c, v = .slice a n c) ∧ Rep (In 0 w.heap.size w') w' (bytesD s) [v]
   | [v, _] => Chg (fun _ => False) w w' ∧ ∃ sv, (∃ a n c, sv = .slice a n c) ∧ v = .agg ([.int .u32 (k : Int), sv] : List Value).toArray ∧ Rep (In 0 w.heap.size w') w' (bytesD s) [sv]
   | [v, _, _] => Chg (fun _ => False) w w' ∧ ∃ (b8 : Nat) (sv : Value), (∃ a n c, sv = .slice a n c) ∧ v = .slice (some ⟨b8, 0, none⟩) 1 1 ∧ Box w' b8 [.int .u32 (k : Int), sv] 51 ∧ Rep (In 0 w.heap.size w') w' (bytesD s) [sv]
   | [v, _, _, _] => Chg (fun j => d.ownBlock = some j) w w' ∧ Box w' tb [a0, a1, a2, a3, d] 27 ∧ RowD 0 lo tb 51 2 w' v ((us ++ [(k, s)]).map tagD)
   | _ :: v :: _ => Chg (fun j => j = tb ∨ d.ownBlock = some j) w w' ∧ Box w' tb [a0, a1, a2, a3, v] 27 ∧ RowD 0 lo tb 51 2 w' v ((us ++ [(k, s)]).map tagD))
  mixed rfl rfl rfl rfl rfl (by show ([0,1,2,3,8] : List Nat).Nodup; decide) rfl rfl (by decide) rfl rfl rfl rfl (chg_drew _ _) ?_ ⟨?_, ?_, ?_, ?_, ?_, trivial⟩ ?_
 ·intro p hp vals w' hC hnp a kn
  simp only [List.mem_cons, List.not_mem_nil, or_false] at hp
  rcases hp with rfl | rfl | rfl | rfl | rfl
  ·exact gv rfl rfl (rn_fieldAddr kn rfl fo_t4)
  ·have hbx : Box w' tb [a0, a1, a2, a3, d] 27 := by
    match vals, hC, hnp with
    | [], h, _ => exact hbx0.chg h (fun h => h)
    | [_], h, _ => exact hbx0.chg h.1 (fun h => h)
    | [_, _], h, _ => exact hbx0.chg h.1 (fun h => h)
    | [_, _, _], h, _ => exact hbx0.chg h.1 (fun h => h)
    | [_, _, _, _], h, _ => exact h.2.1
    | _ :: _ :: _ :: _ :: _ :: r, _, hnp =>
     have := hnp 9 (by rw [show ([9, 7, 6, 5, 4] : List Nat).length - (_ :: _ :: _ :: _ :: _ :: r).length = 0 from by simp only [List.length_cons, List.length_nil]; omega]; simp)
     exact absurd (show true = false from this) (by simp)
   exact gv rfl rfl (rn_load kn rfl Impl.to_tags (hbx.cell0 (i := 4) rfl))
  ·exact gv rfl rfl (rn_move kn rfl)
  ·exact gv rfl rfl (rn_move kn rfl)
  ·exact gv rfl rfl (rn_fieldAddr kn rfl fo_t4)
 ·rintro vals w' hvl hC a kn
  match vals, hvl with
  | [v7, v6, v5, v4], _ =>
   obtain ⟨hc, hbx, hrd⟩ := hC
   obtain ⟨a7, c7, rfl⟩ := hrd.shape
   refine ⟨_, rfl, does_storeB kn rfl rfl Impl.to_tags rfl hbx rfl (fun w'' hbx'' hg'' hs'' => ⟨?_, hbx'', hrd.stored hg''⟩)⟩
   exact (hc.wide (fun j h => .inr h)).trans ((Chg.grown hg'').wide (fun j h => .inl h))
 ·rintro vals w' hvl hC a kn
  match vals, hvl with
  | [v6, v5, v4], _ =>
   obtain ⟨hc, b8, sv, ⟨sa, sn, sc, rfl⟩, rfl, hb8, hrep⟩ := hC
   have hsz := hc.size
   have hrdw := hU.row.below ⟨hc.os, hc.tape, hc.output, hc.size, fun j hj => hc.block j hj (fun h => h)⟩
   obtain ⟨xs0, hrow0, hreps0⟩ := hrdw.row
   refine ⟨_, rfl, does_app1 kn Impl.rt_tags rfl rfl hb8 rfl rfl hrow0 (by omega) (by simp only [List.length_map]; omega) (fun d' w'' hrow'' hg'' => ⟨?_, ?_, ?_⟩)⟩
   ·have h2 : Chg (fun j => d.ownBlock = some j) w' w'' := ⟨hg''.grown.os, hg''.grown.tape, hg''.grown.output, hg''.grown.size, fun j hj hn => hg''.grown.block j hj (fun e => hn e.symm)⟩
    exact (hc.wide (fun j h => h.elim)).trans h2
   ·have hb := hbx0.chg hc (fun h => h)
    exact hb.kept hg''.grown (fun e => hU.row.apart e.symm)
   ·rw [List.map_append, List.map_cons, List.map_nil]
    refine hrdw.snoc (by omega) (by have := hbx0.lt; omega) hreps0 ?_ hrow'' hg''
    simp only [tagD, Rep, Reps]
    refine ⟨[_], _, rfl, rfl, [_], _, rfl, ?_, rfl⟩
    refine hrep.up (fun r hr => ⟨.inr (by rcases hr.1 with h | h; exact absurd h (Nat.not_lt_zero _); omega), hr.2, ?_, fun e => ?_⟩) (fun _ _ => rfl)
    ·rcases hr.1 with h | h
     ·exact absurd h (Nat.not_lt_zero _)
     ·have := hbx0.lt; omega
    ·rcases hr.1 with h | h
     ·exact absurd h (Nat.not_lt_zero _)
     ·have := (hdl r e).2; omega
 ·rintro vals w' hvl hC a kn
  match vals, hvl with
  | [v5, v4], _ =>
   obtain ⟨hc, sv, ⟨sa, sn, sc, rfl⟩, rfl, hrep⟩ := hC
   have hga := grown_alloc w' (.cells ([.int .u32 (k : Int), .slice sa sn sc] : List Value).toArray 51)
   refine ⟨_, rfl, does_slice1 (cs := [.int .u32 (k : Int), .slice sa sn sc]) kn Impl.rt_tags rfl rfl rfl rfl ⟨hc.trans (Chg.grown0 hga), _, _, ⟨sa, sn, sc, rfl⟩, rfl, box_alloc _ _ _, hrep.up (fun r hr => ⟨hr.1, by have := hr.2; simp; omega⟩) (fun r hr => hga.block r hr.2 (by simp))⟩⟩
 ·rintro vals w' hvl hC a kn
  match vals, hvl with
  | [v4], _ =>
   obtain ⟨hc, ⟨sa, sn, sc, rfl⟩, hrep⟩ := hC
   exact ⟨_, rfl, does_build (ps := [(0, .tmp 7), (1, .tmp 9)]) (cs := [.int .u32 (k : Int), .slice sa sn sc]) kn rfl (by kernel_rfl) ⟨hc, _, ⟨sa, sn, sc, rfl⟩, rfl, hrep⟩⟩
 ·rintro vals w' hvl hC a kn
  match vals, hvl with
  | [], _ =>
   have hsb : BytesAt w' (.slice va (s.map byteD).length vc) s := hsq.bytes.below ⟨hC.os, hC.tape, hC.output, hC.size, fun j hj => hC.block j hj (fun h => h)⟩
   refine ⟨_, rfl, does_appSl kn tb_bytes tb_bytes rfl rfl hsb (Own.nil w' w'.heap.size 5) (Nat.le_refl _) (by simpa using hs) (fun d' w'' ho hg => ?_)⟩
   rw [List.nil_append] at ho
   obtain ⟨oa, oc, rfl⟩ := ho.shape
   refine ⟨hC.trans (Chg.grown0 hg.grown), ⟨_, _, _, rfl⟩, own_rep (l0 := w.heap.size) ho hC.size⟩
 ·rintro vals w' hvl hC
  match vals, hvl with
  | [v9, v7, v6, v5, v4], _ =>
   obtain ⟨hc, hbx, hrd⟩ := hC
   exact qk_end0 rfl ⟨rfl, v7, ⟨hbx, hrd, hlo, by have := hc.size; omega⟩, hc⟩
def k0 : Tk := ⟨27, 54, 43, 999999, 20, 22, [63, 56, 45, 21], 51, []⟩
theorem k0_ok : TkOk Tryd.prog k0 true := ⟨Tlk.tty, (fun _ => Tlk.boolP), (fun _ => Tlk.textP), (fun h => Bool.noConfusion (h.symm.trans (show isFn Tryd.prog 999999 = false by kernel_rfl))), fun f fs h => by cases h⟩
theorem k0_tg : TgOk Tryd.prog k0 := ⟨Tlk.eachP, Tlk.sortP, fun f h => by
 simp only [k0, List.contains_eq_mem, decide_eq_true_eq, List.mem_cons, List.not_mem_nil, or_false] at h
 rcases h with rfl | rfl | rfl | rfl
 ·exact clo_DescribeConfigsResponseResourceConfigConfigSynonym
 ·exact clo_DescribeConfigsResponseResourceConfig
 ·exact clo_DescribeConfigsResponseResource
 ·exact clo_DescribeConfigsResponse⟩
theorem tell_sDescribeConfigsResponseResourceConfigConfigSynonym : TlPo Tryd.prog 55 true 0 sDescribeConfigsResponseResourceConfigConfigSynonym := tellFn_ok k0_ok (fun _ => k0_tg) mixed (by kernel_rfl)
def k1 : Tk := ⟨k0.tT, k0.bool, k0.text, k0.octs, k0.each, k0.sorted, k0.clos, k0.gT, (55, sDescribeConfigsResponseResourceConfigConfigSynonym) :: k0.tells⟩
theorem k1_ok : TkOk Tryd.prog k1 true := Tlk.tk_cons k0_ok tell_sDescribeConfigsResponseResourceConfigConfigSynonym
theorem k1_tg : TgOk Tryd.prog k1 := Tlk.tg_cons k0_tg _ _
theorem tell_sDescribeConfigsResponseResourceConfig : TlPo Tryd.prog 44 true 0 sDescribeConfigsResponseResourceConfig := tellFn_ok k1_ok (fun _ => k1_tg) mixed (by kernel_rfl)
def k2 : Tk := ⟨k1.tT, k1.bool, k1.text, k1.octs, k1.each, k1.sorted, k1.clos, k1.gT, (44, sDescribeConfigsResponseResourceConfig) :: k1.tells⟩
theorem k2_ok : TkOk Tryd.prog k2 true := Tlk.tk_cons k1_ok tell_sDescribeConfigsResponseResourceConfig
theorem k2_tg : TgOk Tryd.prog k2 := Tlk.tg_cons k1_tg _ _
theorem tell_sDescribeConfigsResponseResource : TlPo Tryd.prog 19 true 0 sDescribeConfigsResponseResource := tellFn_ok k2_ok (fun _ => k2_tg) mixed (by kernel_rfl)
def k3 : Tk := ⟨k2.tT, k2.bool, k2.text, k2.octs, k2.each, k2.sorted, k2.clos, k2.gT, (19, sDescribeConfigsResponseResource) :: k2.tells⟩
theorem k3_ok : TkOk Tryd.prog k3 true := Tlk.tk_cons k2_ok tell_sDescribeConfigsResponseResource
theorem k3_tg : TgOk Tryd.prog k3 := Tlk.tg_cons k2_tg _ _
theorem tell_top : TlPo Tryd.prog 14 true 1 m.fields := tellFn_ok k3_ok (fun _ => k3_tg) mixed (by kernel_rfl)
theorem fn_readT (w : World) (ev sv : Value) (b sb : Nat) (v : Nat) (xs : List UInt8) {dfl : List Value} {acts : List Ra} (hx : readFU Tryd.prog Rdk.kru 18 (cs0 (v : Int)) false = some (dfl, acts)) (hb : Box w b (cs0 (v : Int)) 57) (hs : SrcAt w sb sv xs) (hsb : sb < w.heap.size) (hne : b ≠ sb)
  (hg : w.cell? ⟨1, 0, none⟩ = some ev) (hgb : 1 ≠ b) (hgl : 1 < w.heap.size) :
  Calls Tryd.prog 13 #[.pointer (some ⟨b, 0, none⟩), sv] w fun en w' => Chg (fun j => j = b ∨ w.heap.size ≤ j) w w' ∧ match rdAs acts (litsD dfl) xs with
   | some x => en = .returned .nilIface ∧ ∃ cs' lo, w.heap.size ≤ lo ∧ Box w' b cs' 57 ∧ Reps (Dk sb lo w') w' x.1 cs' ∧ shDs x.1 = shDs (litsD dfl)
   | none => en = .returned ev := by
 have hr := readFU_ok (Rdk.kru_ok ev) Rdk.kru_ty hx hb hs hsb hne hg hgb hgl
 refine enter (vs := [.pointer (some ⟨b, 0, none⟩), sv]) Tryd.func13 rfl Tryd.ntmps13 rfl ?_
 repeat first|(with_reducible first|apply wc_seq|apply wc_region|apply wl_nil|apply qk_thn)|((with_reducible apply ws);exact rfl;exact rfl)
 refine wl_call rfl hr.1 rfl (hr.2.mono ?_)
 rintro en w1 ⟨hc, h⟩
 cases hR : rdAs acts (litsD dfl) xs with
 | some x =>
  rw [hR] at h
  obtain ⟨rfl, h⟩ := h
  refine ⟨_, rfl, ?_⟩
  repeat first|(with_reducible first|apply wl_nil|apply qk_thn|apply wc_ret)|((with_reducible apply ws);exact rfl;exact rfl)
  exact qk_ret1 rfl rfl ⟨hc, rfl, h⟩
 | none =>
  rw [hR] at h
  obtain rfl := h
  refine ⟨_, rfl, ?_⟩
  repeat first|(with_reducible first|apply wl_nil|apply qk_thn|apply wc_ret)|((with_reducible apply ws);exact rfl;exact rfl)
  exact qk_ret1 rfl rfl ⟨hc, rfl⟩
set_option maxHeartbeats 4000000 in
theorem fn_doorT (v : Nat) (hv : v ≤ most) (w : World) (u : TypeId) (x sv : Value) (xs : List UInt8) (hxl : xs.length ≤ 1000) (hs : BytesAt w sv xs) (hg : w.cell? ⟨1, 0, none⟩ = some (.iface u x)) {dfl : List Value} {acts : List Ra} (hx : ∀ ub, readFU Tryd.prog Rdk.kru 18 (cs0 (v : Int)) ub = some (dfl, acts)) (o : Option Tree) (H : Comes true m.fields dfl acts xs o) :
  Calls Tryd.prog 5 #[.int .i64 (v : Int), sv] w fun e w' => Below w.heap.size w w' ∧ match o with
   | none => ∃ cs : List Value, e = .returned (.tuple #[.agg cs.toArray, .bool false]) ∧ cs = [.int .i64 0, .slice none 0 0, .bool false, .slice none 0 0, .slice none 0 0]
   | some T => ∃ cs : List Value, e = .returned (.tuple #[.agg cs.toArray, .bool true]) ∧ Rep (Lo w'.heap.size) w' (treeD T) cs := by
 have hvm : v < 32768 := by simp only [most] at hv; omega
 obtain ⟨sa, sc, hsv⟩ := hs.shape
 refine enter (vs := [.int .i64 (v : Int), sv]) Tryd.func5 rfl Tryd.ntmps5 rfl ?_
 repeat (with_reducible first|apply wc_seq|apply wc_region)
 refine wl_alloc Impl.zv_tree rfl rfl (fun w0 hb0 hg0 hs0 => ?_)
 have hw0 : Below w.heap.size w w0 := below_of hg0 (Nat.le_refl _) (by simp)
 repeat first|(with_reducible first|apply wc_seq|apply wc_region|apply wl_nil|apply qk_thn)|((with_reducible apply ws);exact rfl;exact rfl)
 refine wl_call rfl (by kernel_rfl) rfl ((fn_new w0).mono ?_)
 rintro e w1 ⟨rfl, hb1, hw01⟩
 refine ⟨_, rfl, ?_⟩
 have hz01 := hw01.size
 have hw1 := hw0.trans (hw01.mono (by omega))
 repeat first|(with_reducible first|apply wc_seq|apply wc_region|apply wl_nil|apply qk_thn)|((with_reducible apply ws);exact rfl;exact rfl)
 refine wl_conv .i16 rfl ti_i64 ti_i16 rfl (r := (v : Int)) (be2_ver v hvm) ?_
 rw [d0_hd] at hb1
 refine wl_call rfl (by kernel_rfl) rfl ((fn_set w1 w0.heap.size _ _ (v : Int) hb1).mono ?_)
 rintro e w2 ⟨rfl, hb2, hg2⟩
 refine ⟨_, rfl, ?_⟩
 have hlt := hb1.lt
 have hw12 : Below w0.heap.size w1 w2 := below_of hg2 (by omega) (by intro q hq; simp at hq; omega)
 have hw2 := hw1.trans (hw12.mono (by omega))
 have hs2 := hs.below hw2
 have hz2 := hg2.size
 repeat first|(with_reducible first|apply wc_seq|apply wc_region|apply wl_nil|apply qk_thn)|((with_reducible apply ws);exact rfl;exact rfl)
 refine wl_appSl tb_bytes tb_bytes rfl rfl rfl hs2 (Own.nil w2 w2.heap.size 5) (Nat.le_refl _) (by simp only [List.length_nil, lim]; omega) (fun d3 w3 ho3 hg3 => ?_)
 have hw23 : Below w2.heap.size w2 w3 := hg3.below (Nat.le_refl _) (by simp [Value.ownBlock])
 have hw3 := hw2.trans (hw23.mono (by omega))
 have hb3 := hb2.below hw23 (by omega)
 have hz3 := hw23.size
 have hgl : 1 < w.heap.size := World.block_lt_of_cell? _ _ hg
 have hg3' : w3.cell? ⟨1, 0, none⟩ = some (.iface u x) := by rw [← hg]; simp only [World.cell?, hw3.block _ hgl]
 rw [List.nil_append] at ho3
 obtain ⟨sb, hsb, hsbx, hsrc⟩ := own_src ho3 (by simp only [srcLim]; omega) (by omega) (by omega)
 have hb03 : Box w3 w.heap.size [.int .i64 0, .slice none 0 0, .bool false, .slice none 0 0, .slice none 0 0] 27 := ((hb0.below hw01 (by omega)).below hw12 (by omega)).below hw23 (by omega)
 refine wl_call rfl (by kernel_rfl) rfl ((fn_readT w3 (.iface u x) d3 w0.heap.size sb v xs (hx false) hb3 hsrc hsb (by omega) hg3' (by omega) (by omega)).mono ?_)
 rintro e w4 ⟨hc4, h4⟩
 have hw34 : Below w0.heap.size w3 w4 := chg_below hc4 (fun j hj h => by rcases h with h | h <;> omega) (by omega)
 have hw4 := hw3.trans (hw34.mono (by omega))
 have hz4 := hw34.size
 have hb04 := hb03.below hw34 (by omega)
 cases o with
 | none =>
  have hR : rdAs acts (litsD dfl) xs = none := H
  rw [hR] at h4
  obtain rfl := h4
  refine ⟨_, rfl, ?_⟩
  refine wl_ifNeErr rfl (by kernel_rfl) rfl ?_
  repeat (with_reducible first|apply wl_nil|apply qk_thn)
  refine wc_yes rfl rfl ?_
  repeat (with_reducible first|apply wc_seq|apply wc_region)
  refine wl_build rfl (cs := [.int .i64 0, .slice none 0 0, .bool false, .slice none 0 0, .slice none 0 0]) (by kernel_rfl) rfl ?_
  refine wl_storeBAgg (vs := [.int .i64 0, .slice none 0 0, .bool false, .slice none 0 0, .slice none 0 0]) rfl rfl rfl Impl.tz_tree rfl hb04 rfl (fun w6 hb6 hg6 hs6 => ?_)
  repeat first|(with_reducible first|apply wl_nil|apply qk_thn|apply wc_ret|apply qk_thn_ret)|((with_reducible apply ws);exact rfl;exact rfl)
  have hw46 : Below w.heap.size w4 w6 := below_of hg6 (by omega) (by intro q hq; simp at hq; omega)
  exact qk_retCell2 (cs := [.int .i64 0, .slice none 0 0, .bool false, .slice none 0 0, .slice none 0 0]) rfl rfl Impl.ta_tree hb6 rfl ⟨hw4.trans hw46, _, rfl, rfl⟩
 | some T0 =>
  obtain ⟨d0, rst, r0, ds2, hR, hd0, himp, hT0, _, hun⟩ := H
  rw [hR] at h4
  obtain ⟨rfl, cs4, lo4, hlo4, hb4, hr4, _⟩ := h4
  refine ⟨_, rfl, ?_⟩
  refine wl_ifNeNil rfl (by kernel_rfl) rfl ?_
  repeat (with_reducible first|apply wl_nil|apply qk_thn)
  refine wc_no rfl rfl ?_
  repeat first|(with_reducible first|apply wc_seq|apply wc_region|apply qk_thn|apply wc_skip)|((with_reducible apply ws);exact rfl;exact rfl)
  simp only [Reps] at hr4
  obtain ⟨c1, c2, rfl, hc1, hr4⟩ := hr4
  have hc1l := Rep.len d0 c1 hc1
  rw [hd0] at hc1l
  have hat : CellsAt w4 w0.heap.size (0 + 1) c2 := by
   have h0 := hb4.cells.right
   rw [hc1l] at h0
   exact h0
  have hr4' : Reps (Lo w4.heap.size) w4 ds2 c2 := Reps.mono (fun j hj => ⟨hj.2, rfl⟩) _ _ (himp _ _ _ hr4)
  have htell := tell_top.2 w4.heap.size w4 w0.heap.size 0 c2 ds2 T0 hat hr4' (by omega) (Nat.le_refl _) hT0
  refine wl_call rfl tell_top.1 rfl (htell.mono ?_)
  rintro e w5 ⟨cs5, T, rfl, hr5, hT5, hc5⟩
  refine ⟨_, rfl, ?_⟩
  have hz5 := hc5.size
  have hw45 : Below w4.heap.size w4 w5 := ⟨hc5.os, hc5.tape, hc5.output, hc5.size, fun j hj => hc5.block j hj (fun h => h)⟩
  have hw5 := hw4.trans (hw45.mono (by omega))
  have hb05 := hb04.below hw45 (by omega)
  obtain ⟨hone, hlen5⟩ := tree_oneG hr5
  refine wl_storeBAgg (vs := cs5) rfl rfl rfl (by rw [hlen5]; exact Impl.tz_tree) hone hb05 (by rw [hlen5]; rfl) (fun w6 hb6 hg6 hs6 => ?_)
  repeat first|(with_reducible first|apply wl_nil|apply qk_thn|apply wc_ret)|((with_reducible apply ws);exact rfl;exact rfl)
  have hw56 : Below w.heap.size w5 w6 := below_of hg6 (by omega) (by intro q hq; simp at hq; omega)
  obtain rfl := hun T hT5
  refine qk_retCell2 rfl rfl (by rw [hlen5]; exact Impl.ta_tree) hb6 rfl ⟨hw5.trans hw56, cs5, rfl, ?_⟩
  exact hr5.up (fun r hr => by have := hr.2; simp only [Lo]; omega) (fun r hr => hg6.block r hr.2 (by rcases hr.1 with h | h; exact absurd h (Nat.not_lt_zero _); simp; omega))
theorem fn_readU (w : World) (ev sv : Value) (b sb : Nat) (v : Nat) (xs : List UInt8) {dfl : List Value} {acts : List Ra} (hx : readFU Tryd.prog Rdk.kru 18 (cs0 (v : Int)) true = some (dfl, acts)) (hb : Box w b (cs0 (v : Int)) 57) (hs : SrcAt w sb sv xs) (hsb : sb < w.heap.size) (hne : b ≠ sb)
  (hg : w.cell? ⟨1, 0, none⟩ = some ev) (hgb : 1 ≠ b) (hgl : 1 < w.heap.size) :
  Calls Tryd.prog 15 #[.pointer (some ⟨b, 0, none⟩), sv] w fun en w' => Chg (fun j => j = b ∨ w.heap.size ≤ j) w w' ∧ match rdAs acts (litsD dfl) xs with
   | some x => en = .returned .nilIface ∧ ∃ cs' lo, w.heap.size ≤ lo ∧ Box w' b cs' 57 ∧ Reps (Dk sb lo w') w' x.1 cs' ∧ shDs x.1 = shDs (litsD dfl)
   | none => en = .returned ev := by
 have hr := readFU_ok (Rdk.kru_ok ev) Rdk.kru_ty hx hb hs hsb hne hg hgb hgl
 refine enter (vs := [.pointer (some ⟨b, 0, none⟩), sv]) Tryd.func15 rfl Tryd.ntmps15 rfl ?_
 repeat first|(with_reducible first|apply wc_seq|apply wc_region|apply wl_nil|apply qk_thn)|((with_reducible apply ws);exact rfl;exact rfl)
 refine wl_call rfl hr.1 rfl (hr.2.mono ?_)
 rintro en w1 ⟨hc, h⟩
 cases hR : rdAs acts (litsD dfl) xs with
 | some x =>
  rw [hR] at h
  obtain ⟨rfl, h⟩ := h
  refine ⟨_, rfl, ?_⟩
  repeat first|(with_reducible first|apply wl_nil|apply qk_thn|apply wc_ret)|((with_reducible apply ws);exact rfl;exact rfl)
  exact qk_ret1 rfl rfl ⟨hc, rfl, h⟩
 | none =>
  rw [hR] at h
  obtain rfl := h
  refine ⟨_, rfl, ?_⟩
  repeat first|(with_reducible first|apply wl_nil|apply qk_thn|apply wc_ret)|((with_reducible apply ws);exact rfl;exact rfl)
  exact qk_ret1 rfl rfl ⟨hc, rfl⟩
set_option maxHeartbeats 4000000 in
theorem fn_doorU (v : Nat) (hv : v ≤ most) (w : World) (u : TypeId) (x sv : Value) (xs : List UInt8) (hxl : xs.length ≤ 1000) (hs : BytesAt w sv xs) (hg : w.cell? ⟨1, 0, none⟩ = some (.iface u x)) {dfl : List Value} {acts : List Ra} (hx : ∀ ub, readFU Tryd.prog Rdk.kru 18 (cs0 (v : Int)) ub = some (dfl, acts)) (o : Option Tree) (H : Comes true m.fields dfl acts xs o) :
  Calls Tryd.prog 7 #[.int .i64 (v : Int), sv] w fun e w' => Below w.heap.size w w' ∧ match o with
   | none => ∃ cs : List Value, e = .returned (.tuple #[.agg cs.toArray, .bool false]) ∧ cs = [.int .i64 0, .slice none 0 0, .bool false, .slice none 0 0, .slice none 0 0]
   | some T => ∃ cs : List Value, e = .returned (.tuple #[.agg cs.toArray, .bool true]) ∧ Rep (Lo w'.heap.size) w' (treeD T) cs := by
 have hvm : v < 32768 := by simp only [most] at hv; omega
 obtain ⟨sa, sc, hsv⟩ := hs.shape
 refine enter (vs := [.int .i64 (v : Int), sv]) Tryd.func7 rfl Tryd.ntmps7 rfl ?_
 repeat (with_reducible first|apply wc_seq|apply wc_region)
 refine wl_alloc Impl.zv_tree rfl rfl (fun w0 hb0 hg0 hs0 => ?_)
 have hw0 : Below w.heap.size w w0 := below_of hg0 (Nat.le_refl _) (by simp)
 repeat first|(with_reducible first|apply wc_seq|apply wc_region|apply wl_nil|apply qk_thn)|((with_reducible apply ws);exact rfl;exact rfl)
 refine wl_call rfl (by kernel_rfl) rfl ((fn_new w0).mono ?_)
 rintro e w1 ⟨rfl, hb1, hw01⟩
 refine ⟨_, rfl, ?_⟩
 have hz01 := hw01.size
 have hw1 := hw0.trans (hw01.mono (by omega))
 repeat first|(with_reducible first|apply wc_seq|apply wc_region|apply wl_nil|apply qk_thn)|((with_reducible apply ws);exact rfl;exact rfl)
 refine wl_conv .i16 rfl ti_i64 ti_i16 rfl (r := (v : Int)) (be2_ver v hvm) ?_
 rw [d0_hd] at hb1
 refine wl_call rfl (by kernel_rfl) rfl ((fn_set w1 w0.heap.size _ _ (v : Int) hb1).mono ?_)
 rintro e w2 ⟨rfl, hb2, hg2⟩
 refine ⟨_, rfl, ?_⟩
 have hlt := hb1.lt
 have hw12 : Below w0.heap.size w1 w2 := below_of hg2 (by omega) (by intro q hq; simp at hq; omega)
 have hw2 := hw1.trans (hw12.mono (by omega))
 have hs2 := hs.below hw2
 have hz2 := hg2.size
 repeat first|(with_reducible first|apply wc_seq|apply wc_region|apply wl_nil|apply qk_thn)|((with_reducible apply ws);exact rfl;exact rfl)
 refine wl_appSl tb_bytes tb_bytes rfl rfl rfl hs2 (Own.nil w2 w2.heap.size 5) (Nat.le_refl _) (by simp only [List.length_nil, lim]; omega) (fun d3 w3 ho3 hg3 => ?_)
 have hw23 : Below w2.heap.size w2 w3 := hg3.below (Nat.le_refl _) (by simp [Value.ownBlock])
 have hw3 := hw2.trans (hw23.mono (by omega))
 have hb3 := hb2.below hw23 (by omega)
 have hz3 := hw23.size
 have hgl : 1 < w.heap.size := World.block_lt_of_cell? _ _ hg
 have hg3' : w3.cell? ⟨1, 0, none⟩ = some (.iface u x) := by rw [← hg]; simp only [World.cell?, hw3.block _ hgl]
 rw [List.nil_append] at ho3
 obtain ⟨sb, hsb, hsbx, hsrc⟩ := own_src ho3 (by simp only [srcLim]; omega) (by omega) (by omega)
 have hb03 : Box w3 w.heap.size [.int .i64 0, .slice none 0 0, .bool false, .slice none 0 0, .slice none 0 0] 27 := ((hb0.below hw01 (by omega)).below hw12 (by omega)).below hw23 (by omega)
 refine wl_call rfl (by kernel_rfl) rfl ((fn_readU w3 (.iface u x) d3 w0.heap.size sb v xs (hx true) hb3 hsrc hsb (by omega) hg3' (by omega) (by omega)).mono ?_)
 rintro e w4 ⟨hc4, h4⟩
 have hw34 : Below w0.heap.size w3 w4 := chg_below hc4 (fun j hj h => by rcases h with h | h <;> omega) (by omega)
 have hw4 := hw3.trans (hw34.mono (by omega))
 have hz4 := hw34.size
 have hb04 := hb03.below hw34 (by omega)
 cases o with
 | none =>
  have hR : rdAs acts (litsD dfl) xs = none := H
  rw [hR] at h4
  obtain rfl := h4
  refine ⟨_, rfl, ?_⟩
  refine wl_ifNeErr rfl (by kernel_rfl) rfl ?_
  repeat (with_reducible first|apply wl_nil|apply qk_thn)
  refine wc_yes rfl rfl ?_
  repeat (with_reducible first|apply wc_seq|apply wc_region)
  refine wl_build rfl (cs := [.int .i64 0, .slice none 0 0, .bool false, .slice none 0 0, .slice none 0 0]) (by kernel_rfl) rfl ?_
  refine wl_storeBAgg (vs := [.int .i64 0, .slice none 0 0, .bool false, .slice none 0 0, .slice none 0 0]) rfl rfl rfl Impl.tz_tree rfl hb04 rfl (fun w6 hb6 hg6 hs6 => ?_)
  repeat first|(with_reducible first|apply wl_nil|apply qk_thn|apply wc_ret|apply qk_thn_ret)|((with_reducible apply ws);exact rfl;exact rfl)
  have hw46 : Below w.heap.size w4 w6 := below_of hg6 (by omega) (by intro q hq; simp at hq; omega)
  exact qk_retCell2 (cs := [.int .i64 0, .slice none 0 0, .bool false, .slice none 0 0, .slice none 0 0]) rfl rfl Impl.ta_tree hb6 rfl ⟨hw4.trans hw46, _, rfl, rfl⟩
 | some T0 =>
  obtain ⟨d0, rst, r0, ds2, hR, hd0, himp, hT0, _, hun⟩ := H
  rw [hR] at h4
  obtain ⟨rfl, cs4, lo4, hlo4, hb4, hr4, _⟩ := h4
  refine ⟨_, rfl, ?_⟩
  refine wl_ifNeNil rfl (by kernel_rfl) rfl ?_
  repeat (with_reducible first|apply wl_nil|apply qk_thn)
  refine wc_no rfl rfl ?_
  repeat first|(with_reducible first|apply wc_seq|apply wc_region|apply qk_thn|apply wc_skip)|((with_reducible apply ws);exact rfl;exact rfl)
  simp only [Reps] at hr4
  obtain ⟨c1, c2, rfl, hc1, hr4⟩ := hr4
  have hc1l := Rep.len d0 c1 hc1
  rw [hd0] at hc1l
  have hat : CellsAt w4 w0.heap.size (0 + 1) c2 := by
   have h0 := hb4.cells.right
   rw [hc1l] at h0
   exact h0
  have hr4' : Reps (Lo w4.heap.size) w4 ds2 c2 := Reps.mono (fun j hj => ⟨hj.2, rfl⟩) _ _ (himp _ _ _ hr4)
  have htell := tell_top.2 w4.heap.size w4 w0.heap.size 0 c2 ds2 T0 hat hr4' (by omega) (Nat.le_refl _) hT0
  refine wl_call rfl tell_top.1 rfl (htell.mono ?_)
  rintro e w5 ⟨cs5, T, rfl, hr5, hT5, hc5⟩
  refine ⟨_, rfl, ?_⟩
  have hz5 := hc5.size
  have hw45 : Below w4.heap.size w4 w5 := ⟨hc5.os, hc5.tape, hc5.output, hc5.size, fun j hj => hc5.block j hj (fun h => h)⟩
  have hw5 := hw4.trans (hw45.mono (by omega))
  have hb05 := hb04.below hw45 (by omega)
  obtain ⟨hone, hlen5⟩ := tree_oneG hr5
  refine wl_storeBAgg (vs := cs5) rfl rfl rfl (by rw [hlen5]; exact Impl.tz_tree) hone hb05 (by rw [hlen5]; rfl) (fun w6 hb6 hg6 hs6 => ?_)
  repeat first|(with_reducible first|apply wl_nil|apply qk_thn|apply wc_ret)|((with_reducible apply ws);exact rfl;exact rfl)
  have hw56 : Below w.heap.size w5 w6 := below_of hg6 (by omega) (by intro q hq; simp at hq; omega)
  obtain rfl := hun T hT5
  refine qk_retCell2 rfl rfl (by rw [hlen5]; exact Impl.ta_tree) hb6 rfl ⟨hw5.trans hw56, cs5, rfl, ?_⟩
  exact hr5.up (fun r hr => by have := hr.2; simp only [Lo]; omega) (fun r hr => hg6.block r hr.2 (by rcases hr.1 with h | h; exact absurd h (Nat.not_lt_zero _); simp; omega))
end
end Go.Proofs.YtgpnpfiafcakfaaDoor.BDescribeConfigsResponse

namespace Go.Proofs.YtgpnpfiafcakfaaDoor.BDescribeConfigsResponse
open Go Go.RowKit
section
set_option maxRecDepth 100000
set_option maxHeartbeats 4000000 in
theorem fn_end (v : Nat) (hv : v ≤ most) (o0 : Option Tree) (n : Nat) (hnv : n % (most + 1) = v) (hn : n < 256) (w : World) (u : TypeId) (x : Value) (sa : Option Addr) (sc : Nat) (xs : List UInt8) (hs : BytesAt w (.slice sa xs.length sc) xs) (hg : w.cell? ⟨1, 0, none⟩ = some (.iface u x)) {dfl : List Value} {acts : List Ra} (hx : ∀ ub, readFU Tryd.prog Rdk.kru 18 (cs0 (v : Int)) ub = some (dfl, acts)) (Ho : Comes true m.fields dfl acts xs o0) (hxl : xs.length ≤ 1000) :
  Fn 3 [.int .u8 (n : Int), .slice sa xs.length sc] w fun v _ => v = .bool true := by
 have hgk : ∀ w' : World, Below w.heap.size w w' → w'.cell? ⟨1, 0, none⟩ = some (.iface u x) := fun w' hb => by
  rw [← hg]; simp only [World.cell?, hb.block _ (World.block_lt_of_cell? _ _ hg)]
 refine enter Tryd.func3 rfl Tryd.ntmps3 rfl ?_
 repeat first|(with_reducible first|apply wc_seq|apply wc_region|apply wl_nil|apply qk_thn)|((with_reducible apply ws);exact rfl;exact rfl)
 refine wc_no rfl (by simp; omega) ?_
 repeat (with_reducible first|apply wc_seq|apply wc_region|apply qk_thn|apply wc_skip)
 refine wl_call rfl (by kernel_rfl) rfl ((fn_max w).mono ?_)
 rintro e w3 ⟨rfl, hwA3⟩
 refine ⟨_, rfl, ?_⟩
 repeat first|(with_reducible first|apply wc_seq|apply wc_region|apply wl_nil|apply qk_thn)|((with_reducible apply ws);exact rfl;exact rfl)
 refine wc_no rfl (by decide) ?_
 repeat first|(with_reducible first|apply wc_seq|apply wc_region|apply wl_nil|apply qk_thn|apply wc_skip)|((with_reducible apply ws);exact rfl;exact rfl)
 refine wc_no rfl (by simp; omega) ?_
 repeat first|(with_reducible first|apply wc_seq|apply wc_region|apply qk_thn|apply wc_skip)|((with_reducible apply ws);exact rfl;exact rfl)
 refine wl_call rfl (by kernel_rfl) rfl ((fn_version n most hn (by decide) w3).mono ?_)
 rintro e w3' ⟨v', rfl, _, hww, rfl⟩
 obtain rfl : w3 = w3' := hww.symm
 refine ⟨_, rfl, ?_⟩
 rw [hnv]
 repeat ((with_reducible apply ws);exact rfl;exact rfl)
 cases o0 with
 | none =>
  refine wl_call rfl (by kernel_rfl) rfl ((fn_doorT v hv w3 u x (.slice sa xs.length sc) xs (by omega) (hs.below hwA3) (hgk w3 hwA3) hx none Ho).mono ?_)
  rintro e w4 h4
  obtain ⟨hw4, cs4, rfl, hcs4⟩ := h4
  have hone4 : (cs4.all fun v => v.oneCell') = true := by rw [hcs4]; rfl
  have hlen4 : cs4.length = 5 := by rw [hcs4]; rfl
  refine ⟨_, rfl, ?_⟩
  have hz4 := hw4.size
  have hwA4 := hwA3.trans (hw4.mono hwA3.size)
  repeat ((with_reducible apply ws);exact rfl;exact rfl)
  refine wl_extract rfl rfl rfl ?_
  refine wl_extract rfl rfl rfl ?_
  refine wl_alloc Impl.zv_tree rfl rfl (fun w5 hb5 hg5 hs5 => ?_)
  refine wl_storeBAgg (vs := cs4) rfl rfl rfl (by rw [hlen4]; exact Impl.tz_tree) hone4 hb5 (by rw [hlen4]; rfl) (fun w6 hb6 hg6 hs6 => ?_)
  have hwB6 : Below w4.heap.size w4 w6 := (below_of hg5 (Nat.le_refl _) (by simp)).trans (below_of hg6 (by omega) (by intro q hq; simp at hq; omega))
  have hz6 := hwB6.size
  have hwA6 := hwA4.trans (hwB6.mono hwA4.size)
  repeat first|(with_reducible first|apply wc_seq|apply wc_region|apply wl_nil|apply qk_thn)|((with_reducible apply ws);exact rfl;exact rfl)
  refine wl_call rfl (by kernel_rfl) rfl ((fn_version n most hn (by decide) w6).mono ?_)
  rintro e w6' ⟨v', rfl, _, hww, rfl⟩
  obtain rfl : w6 = w6' := hww.symm
  refine ⟨_, rfl, ?_⟩
  rw [hnv]
  repeat ((with_reducible apply ws);exact rfl;exact rfl)
  refine wl_call rfl (by kernel_rfl) rfl ((fn_doorU v hv w6 u x (.slice sa xs.length sc) xs (by omega) (hs.below hwA6) (hgk w6 hwA6) hx none Ho).mono ?_)
  rintro e w7 h7
  obtain ⟨hw7, cs7, rfl, hcs7⟩ := h7
  have hone7 : (cs7.all fun v => v.oneCell') = true := by rw [hcs7]; rfl
  have hlen7 : cs7.length = 5 := by rw [hcs7]; rfl
  refine ⟨_, rfl, ?_⟩
  have hz7 := hw7.size
  have hwA7 := hwA6.trans (hw7.mono hwA6.size)
  repeat ((with_reducible apply ws);exact rfl;exact rfl)
  refine wl_extract rfl rfl rfl ?_
  refine wl_extract rfl rfl rfl ?_
  refine wl_alloc Impl.zv_tree rfl rfl (fun w8 hb8 hg8 hs8 => ?_)
  refine wl_storeBAgg (vs := cs7) rfl rfl rfl (by rw [hlen7]; exact Impl.tz_tree) hone7 hb8 (by rw [hlen7]; rfl) (fun w9 hb9 hg9 hs9 => ?_)
  have hwB9 : Below w7.heap.size w7 w9 := (below_of hg8 (Nat.le_refl _) (by simp)).trans (below_of hg9 (by omega) (by intro q hq; simp at hq; omega))
  have hz9 := hwB9.size
  have hwA9 := hwA7.trans (hwB9.mono hwA7.size)
  repeat first|(with_reducible first|apply wc_seq|apply wl_nil|apply qk_thn)|((with_reducible apply ws);exact rfl;exact rfl)
  refine wc_par [(0, .bool false), (1, .bool false), (2, .bool true), (3, .bool true), (4, .bool false), (5, .bool true), (6, .bool true), (7, undef), (8, undef), (9, undef), (10, undef), (11, undef), (12, .bool true), (13, .bool true)] [14]
   (fun vals w' => Below w9.heap.size w9 w' ∧ match vals with
    | [] => True
    | v :: _ => v = .bool true)
   mixed rfl rfl rfl rfl rfl (by show ([0,1,2,3,4,5,6,7,8,9,10,11,12,13] : List Nat).Nodup; decide) rfl rfl (by decide) rfl rfl rfl rfl ⟨(Below.refl _ w9).drew, trivial⟩ ?_ ⟨?_, trivial⟩ ?_
  ·intro p hp vals w' hC a k
   simp only [List.mem_cons, List.not_mem_nil, or_false] at hp
   rcases hp with rfl | rfl | rfl | rfl | rfl | rfl | rfl | rfl | rfl | rfl | rfl | rfl | rfl | rfl
   ·exact gv rfl rfl (rn_move k rfl)
   ·exact gv rfl rfl (rn_move k rfl)
   ·exact gv rfl rfl ((rn_eqlB k rfl rfl Tryd.underlying4).trans rfl)
   ·exact gv rfl rfl (rn_move k rfl)
   ·exact gv_yes rfl rfl rfl k rfl rfl (rn_move k rfl)
   ·exact gv_yes rfl rfl rfl k rfl rfl ((rn_not k rfl).trans rfl)
   ·exact gv_yes rfl rfl rfl k rfl rfl (rn_move k rfl)
   iterate 5 (exact gv_no rfl rfl rfl k rfl rfl)
   ·exact gv_yes rfl rfl rfl k rfl rfl (rn_pick k rfl rfl)
   ·exact gv rfl rfl (rn_pick k rfl rfl)
  ·rintro vals w' hvl ⟨hb', _⟩ a k
   match vals, hvl with
   | [], _ => exact ⟨_, rfl, does_assign k rfl ⟨hb', rfl⟩⟩
  ·rintro vals w' hvl ⟨hb', hC⟩
   match vals, hvl with
   | [v14], _ =>
    simp only [] at hC
    subst hC
    refine qk_thn ?_
    repeat (with_reducible apply wc_ret)
    exact qk_ret1 rfl rfl ⟨_, rfl, hwA9.trans (hb'.mono hwA9.size), rfl⟩
 | some T0 =>
  refine wl_call rfl (by kernel_rfl) rfl ((fn_doorT v hv w3 u x (.slice sa xs.length sc) xs (by omega) (hs.below hwA3) (hgk w3 hwA3) hx (some T0) Ho).mono ?_)
  rintro e w4 h4
  obtain ⟨hw4, cs4, rfl, hr4⟩ := h4
  obtain ⟨hone4, hlen4⟩ := tree_one hr4
  refine ⟨_, rfl, ?_⟩
  have hz4 := hw4.size
  have hwA4 := hwA3.trans (hw4.mono hwA3.size)
  repeat ((with_reducible apply ws);exact rfl;exact rfl)
  refine wl_extract rfl rfl rfl ?_
  refine wl_extract rfl rfl rfl ?_
  refine wl_alloc Impl.zv_tree rfl rfl (fun w5 hb5 hg5 hs5 => ?_)
  refine wl_storeBAgg (vs := cs4) rfl rfl rfl (by rw [hlen4]; exact Impl.tz_tree) hone4 hb5 (by rw [hlen4]; rfl) (fun w6 hb6 hg6 hs6 => ?_)
  have hwB6 : Below w4.heap.size w4 w6 := (below_of hg5 (Nat.le_refl _) (by simp)).trans (below_of hg6 (by omega) (by intro q hq; simp at hq; omega))
  have hz6 := hwB6.size
  have hwA6 := hwA4.trans (hwB6.mono hwA4.size)
  repeat first|(with_reducible first|apply wc_seq|apply wc_region|apply wl_nil|apply qk_thn)|((with_reducible apply ws);exact rfl;exact rfl)
  refine wl_call rfl (by kernel_rfl) rfl ((fn_version n most hn (by decide) w6).mono ?_)
  rintro e w6' ⟨v', rfl, _, hww, rfl⟩
  obtain rfl : w6 = w6' := hww.symm
  refine ⟨_, rfl, ?_⟩
  rw [hnv]
  repeat ((with_reducible apply ws);exact rfl;exact rfl)
  refine wl_call rfl (by kernel_rfl) rfl ((fn_doorU v hv w6 u x (.slice sa xs.length sc) xs (by omega) (hs.below hwA6) (hgk w6 hwA6) hx (some T0) Ho).mono ?_)
  rintro e w7 h7
  obtain ⟨hw7, cs7, rfl, hr7⟩ := h7
  obtain ⟨hone7, hlen7⟩ := tree_one hr7
  refine ⟨_, rfl, ?_⟩
  have hz7 := hw7.size
  have hwA7 := hwA6.trans (hw7.mono hwA6.size)
  repeat ((with_reducible apply ws);exact rfl;exact rfl)
  refine wl_extract rfl rfl rfl ?_
  refine wl_extract rfl rfl rfl ?_
  refine wl_alloc Impl.zv_tree rfl rfl (fun w8 hb8 hg8 hs8 => ?_)
  refine wl_storeBAgg (vs := cs7) rfl rfl rfl (by rw [hlen7]; exact Impl.tz_tree) hone7 hb8 (by rw [hlen7]; rfl) (fun w9 hb9 hg9 hs9 => ?_)
  have hwB9 : Below w7.heap.size w7 w9 := (below_of hg8 (Nat.le_refl _) (by simp)).trans (below_of hg9 (by omega) (by intro q hq; simp at hq; omega))
  have hz9 := hwB9.size
  have hwA9 := hwA7.trans (hwB9.mono hwA7.size)
  obtain ⟨_, _, _, _, _, _, _, _, hfine, _⟩ := Ho
  have hsm := fine_small hfine
  have hw69 : Below w6.heap.size w6 w9 := hw7.trans (hwB9.mono hz7)
  have hw49 : Below w4.heap.size w4 w9 := hwB6.trans (hw69.mono hz6)
  have hr4' : Rep (Lo w9.heap.size) w9 (treeD T0) cs4 := Rep.below hr4 hw49 hw49.size
  have hr7' : Rep (Lo w9.heap.size) w9 (treeD T0) cs7 := Rep.below hr7 hwB9 hwB9.size
  have hb69 := hb6.below hw69 hb6.lt
  repeat first|(with_reducible first|apply wc_seq|apply wl_nil|apply qk_thn)|((with_reducible apply ws);exact rfl;exact rfl)
  refine wc_par [(0, .bool true), (1, .bool true), (2, .bool true), (3, .bool true), (4, .bool true), (5, .bool false), (6, .bool false), (7, .agg cs4.toArray), (9, .agg cs7.toArray)] [14, 13, 12, 11, 10, 8]
   (fun vals w' => Below w9.heap.size w9 w' ∧ match vals with
    | [] => True
    | [v8] => ∃ cs : List Value, v8 = .agg cs.toArray ∧ Rep (In w9.heap.size w9.heap.size w') w' (treeD T0) cs
    | [v10, v8] => (∃ cs : List Value, v10 = .agg cs.toArray ∧ Rep (In w9.heap.size w9.heap.size w') w' (treeD T0) cs) ∧ ∃ cs : List Value, v8 = .agg cs.toArray ∧ Rep (In w9.heap.size w9.heap.size w') w' (treeD T0) cs
    | v :: _ => v = .bool true)
   mixed rfl rfl rfl rfl rfl (by show ([0,1,2,3,4,5,6,7,9] : List Nat).Nodup; decide) rfl rfl (by decide) rfl rfl rfl rfl ⟨(Below.refl _ w9).drew, trivial⟩ ?_ ⟨?_, ?_, ?_, ?_, ?_, ?_, trivial⟩ ?_
  ·intro p hp vals w' hC a k
   simp only [List.mem_cons, List.not_mem_nil, or_false] at hp
   rcases hp with rfl | rfl | rfl | rfl | rfl | rfl | rfl | rfl | rfl
   ·exact gv rfl rfl (rn_move k rfl)
   ·exact gv rfl rfl (rn_move k rfl)
   ·exact gv rfl rfl ((rn_eqlB k rfl rfl Tryd.underlying4).trans rfl)
   ·exact gv rfl rfl (rn_move k rfl)
   ·exact gv_yes rfl rfl rfl k rfl rfl (rn_move k rfl)
   ·exact gv_yes rfl rfl rfl k rfl rfl ((rn_not k rfl).trans rfl)
   ·exact gv_yes rfl rfl rfl k rfl rfl (rn_move k rfl)
   ·exact gv_yes rfl rfl rfl k rfl rfl (rn_loadBAgg k rfl (by rw [hlen4]; exact Impl.ta_tree) (hb69.below hC.1 hb69.lt))
   ·exact gv_yes rfl rfl rfl k rfl rfl (rn_loadBAgg k rfl (by rw [hlen7]; exact Impl.ta_tree) (hb9.below hC.1 hb9.lt))
  ·rintro vals w' hvl ⟨hb', hC⟩ a k
   match vals, hvl with
   | [v13, v12, v11, v10, v8], _ => exact ⟨_, rfl, does_assign k rfl ⟨hb', hC⟩⟩
  ·rintro vals w' hvl ⟨hb', hC⟩ a k
   match vals, hvl with
   | [v12, v11, v10, v8], _ =>
    simp only [] at hC
    subst hC
    exact ⟨_, rfl, does_pick (b := true) (v := .bool true) k rfl rfl ⟨hb', rfl⟩⟩
  ·rintro vals w' hvl ⟨hb', hC⟩ a k
   match vals, hvl with
   | [v11, v10, v8], _ =>
    simp only [] at hC
    subst hC
    exact ⟨_, rfl, does_pick (b := false) (v := .bool true) k rfl rfl ⟨hb', rfl⟩⟩
  ·rintro vals w' hvl ⟨hb', hC⟩ a k
   match vals, hvl with
   | [v10, v8], _ =>
    obtain ⟨⟨ca, rfl, ha⟩, cb, rfl, hb⟩ := hC
    refine ⟨_, rfl, does_call k rfl (by kernel_rfl) ((Sam.sam_ok T0 w'.heap.size w' _ _ hfine (Nat.le_refl _) (hb.up (fun r hr => hr.2) (fun _ _ => rfl)) (ha.up (fun r hr => hr.2) (fun _ _ => rfl))).mono ?_)⟩
    rintro e w'' ⟨v, rfl, hb'', rfl⟩
    exact ⟨_, rfl, hb'.trans (hb''.mono hb'.size), rfl⟩
  ·rintro vals w' hvl ⟨hb', hC⟩ a k
   match vals, hvl with
   | [v8], _ =>
    obtain ⟨ca, rfl, ha⟩ := hC
    have hz' := hb'.size
    refine ⟨_, rfl, does_call k rfl (by kernel_rfl) ((Got.got_ok T0 w9.heap.size w' _ hsm hz' (Rep.below hr7' hb' (Nat.le_refl _))).mono ?_)⟩
    rintro e w'' ⟨v, rfl, hb'', cs, rfl, hr⟩
    exact ⟨_, rfl, hb'.trans (hb''.mono hz'), ⟨cs, rfl, hr.up (fun r hr => ⟨hr.1.imp (fun h => h) (fun h => by omega), hr.2⟩) (fun _ _ => rfl)⟩, ca, rfl, ha.up (fun r hr => ⟨hr.1, Nat.lt_of_lt_of_le hr.2 hb''.size⟩) (fun r hr => hb''.block r hr.2)⟩
  ·rintro vals w' hvl ⟨hb', hC⟩ a k
   match vals, hvl with
   | [], _ =>
    have hz' := hb'.size
    refine ⟨_, rfl, does_call k rfl (by kernel_rfl) ((Got.got_ok T0 w9.heap.size w' _ hsm hz' (Rep.below hr4' hb' (Nat.le_refl _))).mono ?_)⟩
    rintro e w'' ⟨v, rfl, hb'', cs, rfl, hr⟩
    exact ⟨_, rfl, hb'.trans (hb''.mono hz'), cs, rfl, hr.up (fun r hr => ⟨hr.1.imp (fun h => h) (fun h => by omega), hr.2⟩) (fun _ _ => rfl)⟩
  ·rintro vals w' hvl ⟨hb', hC⟩
   match vals, hvl with
   | [v14, v13, v12, v11, v10, v8], _ =>
    simp only [] at hC
    subst hC
    refine qk_thn ?_
    repeat (with_reducible apply wc_ret)
    exact qk_ret1 rfl rfl ⟨_, rfl, hwA9.trans (hb'.mono hwA9.size), rfl⟩
set_option maxHeartbeats 4000000 in
theorem fn_law (n : Nat) (hn : n < 256) (w : World) (u : TypeId) (x : Value) (sa : Option Addr) (sc : Nat) (xs : List UInt8) (hs : BytesAt w (.slice sa xs.length sc) xs) (hg : w.cell? ⟨1, 0, none⟩ = some (.iface u x)) :
  Fn 3 [.int .u8 (n : Int), .slice sa xs.length sc] w fun v _ => v = .bool true := by
 by_cases hxl : xs.length ≤ 1000
 ·have hv : n % (most + 1) ≤ most := by have := Nat.mod_lt n (show most + 1 > 0 by omega); omega
  obtain ⟨dfl, acts, hx, hc⟩ := rd _ hv
  obtain ⟨o, Ho⟩ := hc xs hxl
  exact fn_end _ hv o n rfl hn w u x sa sc xs hs hg hx Ho hxl
 ·refine enter Tryd.func3 rfl Tryd.ntmps3 rfl ?_
  repeat first|(with_reducible first|apply wc_seq|apply wc_region|apply wl_nil|apply qk_thn)|((with_reducible apply ws);exact rfl;exact rfl)
  by_cases hbig : 2147483647 < xs.length
  ·refine wc_yes rfl (by simp; omega) ?_
   repeat first|(with_reducible first|apply wc_seq|apply wc_region|apply wl_nil|apply qk_thn|apply wc_ret|apply qk_thn_ret)|((with_reducible apply ws);exact rfl;exact rfl)
   exact qk_ret1 rfl rfl ⟨_, rfl, Below.refl _ _, rfl⟩
  refine wc_no rfl (by simp; omega) ?_
  repeat (with_reducible first|apply wc_seq|apply wc_region|apply qk_thn|apply wc_skip)
  refine wl_call rfl (by kernel_rfl) rfl ((fn_max w).mono ?_)
  rintro e w3 ⟨rfl, hwA3⟩
  refine ⟨_, rfl, ?_⟩
  repeat first|(with_reducible first|apply wc_seq|apply wc_region|apply wl_nil|apply qk_thn)|((with_reducible apply ws);exact rfl;exact rfl)
  refine wc_no rfl (by decide) ?_
  repeat first|(with_reducible first|apply wc_seq|apply wc_region|apply wl_nil|apply qk_thn|apply wc_skip)|((with_reducible apply ws);exact rfl;exact rfl)
  refine wc_yes rfl (by simp; omega) ?_
  repeat first|(with_reducible first|apply wc_seq|apply wc_region|apply wl_nil|apply qk_thn|apply wc_ret|apply qk_thn_ret)|((with_reducible apply ws);exact rfl;exact rfl)
  exact qk_ret1 rfl rfl ⟨_, rfl, hwA3, rfl⟩
end
end Go.Proofs.YtgpnpfiafcakfaaDoor.BDescribeConfigsResponse

namespace Go.Proofs.YtgpnpfiafcakfaaDoor
open Go Go.RowKit Go.ChangeShapes Go.WideShapes Go.ChangeAt
theorem row_at {W : World} {a : Addr} {sz len : Nat} {f : Nat → List Value} (hsz : 0 < sz) (hlen : 0 < len)
  (hf : ∀ i, i < len → (f i).length = sz ∧ ∀ j v, (f i)[j]? = some v → W.cell? ((a.add (i * sz)).add j) = some v) :
  ∃ b off, a = ⟨b, off, none⟩ ∧ b < W.heap.size ∧ CellsAt W b off ((List.range len).flatMap f) := by
 have h0 := hf 0 hlen
 obtain ⟨b, off, spot⟩ := a
 have hx : ∃ v, (f 0)[0]? = some v := by
  cases hv : (f 0)[0]? with
  | none => rw [List.getElem?_eq_none_iff] at hv; omega
  | some v => exact ⟨v, rfl⟩
 obtain ⟨v0, hv0⟩ := hx
 have hc0 := h0.2 0 v0 hv0
 have hspot : spot = none := by simpa [Addr.add] using World.cell?_spot hc0
 subst hspot
 simp only [Nat.zero_mul] at hc0
 have hadd : ∀ n m, (Addr.add (Addr.add ⟨b, off, none⟩ n) m) = ⟨b, off + n + m, none⟩ := fun n m => by rw [add_plain ⟨b, off, none⟩ n rfl]; rw [add_plain _ _ rfl]
 rw [hadd] at hc0
 have hobj : ∃ arr e fz, W.heap[b]? = some (.cells arr e fz) := by
  unfold World.cell? at hc0
  split at hc0
  ·rename_i c e fz hh; exact ⟨c, e, fz, hh⟩
  ·cases hc0
 obtain ⟨arr, e, fz, hh⟩ := hobj
 have hall : ∀ i j v, i < len → (f i)[j]? = some v → arr[off + i * sz + j]? = some v := by
  intro i j v hi hv
  have := (hf i hi).2 j v hv
  rw [hadd] at this
  simpa [World.cell?, hh] using this
 have hflat : ∀ n, n ≤ len → ((List.range n).flatMap f).length = n * sz ∧ ∀ q v, ((List.range n).flatMap f)[q]? = some v → arr[off + q]? = some v := by
  intro n
  induction n with
  | zero => intro _; simp
  | succ n ih =>
   intro hn
   obtain ⟨hl, hq⟩ := ih (by omega)
   rw [List.range_succ, List.flatMap_append]
   simp only [List.flatMap_cons, List.flatMap_nil, List.append_nil]
   refine ⟨by rw [List.length_append, hl, (hf n (by omega)).1, Nat.succ_mul], fun q v hv => ?_⟩
   by_cases hlt : q < n * sz
   ·rw [List.getElem?_append_left (by omega)] at hv; exact hq q v hv
   ·rw [List.getElem?_append_right (by omega), hl] at hv
    have := hall n (q - n * sz) v (by omega) hv
    rwa [show off + n * sz + (q - n * sz) = off + q from by omega] at this
 obtain ⟨hl, hq⟩ := hflat len (Nat.le_refl _)
 refine ⟨b, off, rfl, (Array.getElem?_eq_some_iff.1 hh).1, arr, e, fz, hh, ?_, hq⟩
 have hpos : 0 < len * sz := Nat.mul_pos hlen hsz
 have hlast : ∃ v, ((List.range len).flatMap f)[len * sz - 1]? = some v := by
  cases hv : ((List.range len).flatMap f)[len * sz - 1]? with
  | none => rw [List.getElem?_eq_none_iff] at hv; omega
  | some v => exact ⟨v, rfl⟩
 obtain ⟨v, hv⟩ := hlast
 have := (Array.getElem?_eq_some_iff.1 (hq _ v hv)).1
 rw [hl]; omega
theorem sum_le : ∀ (a b : List Nat), a.length = b.length → (∀ i (h : i < a.length) (h' : i < b.length), a[i] ≤ b[i]) → a.sum ≤ b.sum
 | [], b, _, _ => by simp
 | x :: a, [], h, _ => by simp at h
 | x :: a, y :: b, h, hall => by
  have h0 := hall 0 (by simp) (by simp)
  have h1 := sum_le a b (by simpa using h) (fun i hi hi' => by have := hall (i + 1) (by simpa using hi) (by simpa using hi'); simpa using this)
  simp only [List.getElem_cons_zero] at h0
  simp only [List.sum_cons]; omega
section
variable {H : Type} {enc : TypeId × Value → H} {P : Program} {W : World} {base : Nat} {spare : Nat → Bool} {held : Bool}
theorem open_sq {α : Type} {t e sz : Nat} (ht : P.underlying t = some (.slice e)) (hc : P.cellsOf e = sz) (hsz : 0 < sz) (g : α → D) (φ : α → Prop) (f0 : α → Nat) (bk : DataW H → Nat) (hnil : 1 ≤ bk .nil) (hsl : ∀ es sp : List (DataW H), (es.map bk).sum + 1 ≤ bk (.slice es sp)) {fuel : Nat} {cs : List Value} {x : DataW H × List MemPlace}
  (h : DataW.trod enc P W base spare held fuel t cs = some x)
  (hel : ∀ n cs' x', n < fuel → DataW.trod enc P W base spare held n e cs' = some x' → ∃ y : α, Rep (Lo W.heap.size) W (g y) cs' ∧ φ y ∧ f0 y ≤ bk x'.1) :
  ∃ (l : List α) (v : Value), cs = [v] ∧ l.length ≤ maxLen ∧ Sq W.heap.size W v (l.map g) ∧ (∀ y ∈ l, φ y) ∧ (l.map f0).sum + 1 ≤ bk x.1 := by
 rcases DataW.trod_slice ht h with ⟨rfl, rfl⟩ | ⟨a, len, cap, elems, rest, n, hfu, rfl, rfl, hb, hle, hcap, hlen, hels, _, _⟩
 ·exact ⟨[], _, rfl, by simp, rep_nil _ _, by simp, by simpa using hnil⟩
 ·have hone : ∀ i : Fin len, ∃ p : List Value × α, W.cells? base (a.add (i.1 * sz)) sz = some p.1 ∧ Rep (Lo W.heap.size) W (g p.2) p.1 ∧ φ p.2 ∧ f0 p.2 ≤ bk (elems[i.1]'(by have := i.2; omega)).1 := by
   intro ⟨i, hi⟩
   have h1 := hels i hi
   rw [List.getElem?_eq_getElem (by omega), hc] at h1
   obtain ⟨cs', h2, h3⟩ := Option.bind_eq_some_iff.1 h1
   obtain ⟨y, hy, hφ⟩ := hel n cs' _ (by omega) h3
   exact ⟨(cs', y), h2, hy, hφ⟩
  let F : Fin len → List Value × α := fun i => Classical.choose (hone i)
  have hF : ∀ i : Fin len, W.cells? base (a.add (i.1 * sz)) sz = some (F i).1 ∧ Rep (Lo W.heap.size) W (g (F i).2) (F i).1 ∧ φ (F i).2 ∧ f0 (F i).2 ≤ bk (elems[i.1]'(by have := i.2; omega)).1 := fun i => Classical.choose_spec (hone i)
  let f : Nat → List Value := fun i => if hi : i < len then (F ⟨i, hi⟩).1 else []
  let l : List α := List.ofFn fun i => (F i).2
  have hll : l.length = len := by simp [l]
  have hφ : ∀ y ∈ l, φ y := by
   intro y hy
   obtain ⟨i, hi⟩ := (List.mem_ofFn).1 hy
   rw [← hi]; exact (hF i).2.2.1
  have hsum : (l.map f0).sum + 1 ≤ bk (.slice (elems.map (·.1)) (rest.map (·.1))) := by
   refine Nat.le_trans (Nat.succ_le_succ (sum_le (l.map f0) ((elems.map (·.1)).map bk) (by simp [hll, hlen]) (fun i hi hi' => ?_))) (hsl _ _)
   have hi2 : i < len := by simpa [hll] using hi
   have := (hF ⟨i, hi2⟩).2.2.2
   simpa [l] using this
  refine ⟨l, _, rfl, by rw [hll]; omega, ?_, hφ, hsum⟩
  simp only [Sq, Rep]
  refine ⟨some a, cap, by simp [hll], by simpa [hll] using hle, ?_⟩
  by_cases hpos : 0 < len
  ·have hfi : ∀ i, i < len → (f i).length = sz ∧ ∀ j v, (f i)[j]? = some v → W.cell? ((a.add (i * sz)).add j) = some v := by
    intro i hi
    have h1 := (hF ⟨i, hi⟩).1
    have h2 := World.cells?_some h1
    simp only [f, dif_pos hi]
    refine ⟨h2.2.1, fun j v hj => ?_⟩
    have := h2.2.2 j (by have := (List.getElem?_eq_some_iff.1 hj).1; omega)
    rw [this]; exact hj
   obtain ⟨b, off, rfl, hlt, hcells⟩ := row_at hsz hpos hfi
   refine .inr ⟨b, off, _, rfl, hlt, hcells, ?_⟩
   have hreps : ∀ n, n ≤ len → Reps (Lo W.heap.size) W ((l.take n).map g) ((List.range n).flatMap f) := by
    intro n
    induction n with
    | zero => intro _; simp [Reps]
    | succ n ih =>
     intro hn
     have hnl : n < l.length := by omega
     rw [List.take_succ_eq_append_getElem hnl, List.map_append, List.range_succ, List.flatMap_append]
     refine (Reps.app _ _ _).2 ⟨_, _, rfl, ih (by omega), ?_⟩
     simp only [List.map_cons, List.map_nil, List.flatMap_cons, List.flatMap_nil, List.append_nil, Reps]
     refine ⟨f n, [], by simp, ?_, rfl⟩
     have hln : l[n] = (F ⟨n, by omega⟩).2 := by simp [l]
     have hfn : f n = (F ⟨n, by omega⟩).1 := by simp only [f]; rw [dif_pos (by omega)]
     rw [hln, hfn]; exact (hF ⟨n, by omega⟩).2.1
   have := hreps len (Nat.le_refl _)
   rwa [List.take_of_length_le (by omega)] at this
  ·have : l = [] := List.length_eq_zero_iff.1 (by omega)
   left; rw [this]; rfl
end
end Go.Proofs.YtgpnpfiafcakfaaDoor

namespace Go.Proofs.YtgpnpfiafcakfaaDoor
open Go Go.RowKit Go.ChangeShapes Go.WideShapes Go.ChangeAt
theorem co_u8 : Tryd.prog.cellsOf 5 = 1 := by kernel_rfl
section
set_option maxRecDepth 100000
variable {H : Type} {enc : TypeId × Value → H} {W : World} {base : Nat} {spare : Nat → Bool} {held : Bool}
theorem bk_all {l : List (DataW H)} : Rows.uptoBulkAll l = (l.map Rows.uptoBulk).sum := by
 induction l with
 | nil => rfl
 | cons x l ih => simp only [Rows.uptoBulkAll, List.map_cons, List.sum_cons, ih]
theorem bk_sl (es sp : List (DataW H)) : (es.map Rows.uptoBulk).sum + 1 ≤ Rows.uptoBulk (.slice es sp) := by
 simp only [Rows.uptoBulk, bk_all]; omega
theorem bk_int (k : IntKind) (n : Int) : 1 ≤ Rows.uptoBulk (H := H) (.lit (.int k n)) := by simp [Rows.uptoBulk]
theorem bk_nil : 1 ≤ Rows.uptoBulk (H := H) .nil := by simp [Rows.uptoBulk]
theorem ones_sum {α : Type} (l : List α) : (l.map fun _ => 1).sum = l.length := by
 induction l with
 | nil => rfl
 | cons x l ih => simp only [List.map_cons, List.sum_cons, List.length_cons, ih]; omega
theorem open_bytes {fuel : Nat} {cs : List Value} {x : DataW H × List MemPlace} (h : DataW.trod enc Tryd.prog W base spare held fuel 22 cs = some x) :
  ∃ (s : List UInt8) (v : Value), cs = [v] ∧ s.length ≤ maxLen ∧ Sq W.heap.size W v (s.map byteD) ∧ s.length + 1 ≤ Rows.uptoBulk x.1 := by
 obtain ⟨l, v, h1, h2, h3, _, h5⟩ := open_sq (e := 5) (sz := 1) Tryd.underlying22 co_u8 (by omega) byteD (fun _ => True) (fun _ => 1) Rows.uptoBulk bk_nil bk_sl h (fun n cs' x' _ hx => by
  obtain ⟨m, rfl, hxe, hw⟩ := DataW.trod_int Tryd.underlying5 hx
  have hm : 0 ≤ m ∧ m ≤ 255 := by simpa [Lit.wf, IntKind.min, IntKind.max, IntKind.signed, IntKind.bits] using hw
  refine ⟨UInt8.ofNat m.toNat, ?_, trivial, by rw [hxe]; exact bk_int _ _⟩
  simp only [byteD, Rep]
  rw [byteNat _ (by omega)]
  congr 2
  omega)
 rw [ones_sum] at h5
 exact ⟨l, v, h1, h2, h3, h5⟩
end
end Go.Proofs.YtgpnpfiafcakfaaDoor

namespace Go.Proofs.YtgpnpfiafcakfaaDoor.BDescribeConfigsResponse
open Go Go.RowKit Go.ChangeShapes Go.WideShapes Go.ChangeAt
theorem own : ownKnob Tryd.prog.godebug = none := by kernel_rfl
theorem laidOut : laidOutB Tryd.prog = true := by kernel_rfl
theorem gErr : Tryd.prog.globalNamed "pub-mailsack/pub/kmsg/inner/kbin.ErrNotEnoughData" = some 1 := by kernel_rfl
theorem gErrT : (Tryd.prog.globals[(1 : Nat)]?).map (·.type) = some 44 := by kernel_rfl
theorem err_of_laid {W : World} (h : laidMetH Tryd.prog Rows.fnUnsafeDescribeConfigsResponseRow.laid W) : ∃ u x, W.cell? ⟨1, 0, none⟩ = some (.iface u x) := by
  have h' : laidMet Tryd.prog Rows.fnUnsafeDescribeConfigsResponseRow.laid W := h
  obtain ⟨ps, ⟨g0, t0, cs0, f0, p0, q0, hg0, ht0, hv0, hd0, _⟩, _⟩ := h'
  obtain rfl := Option.some.inj (gErr.symm.trans hg0)
  obtain rfl := Option.some.inj (gErrT.symm.trans ht0)
  obtain ⟨l0⟩ := cs0
  obtain ⟨fu, u, v, e, _, _⟩ := iface_of_trod Tryd.underlying44 hd0
  have e' : l0 = [.iface u v] := e
  subst e'
  exact ⟨_, _, by simpa using World.var?_cell hg0 hv0 0⟩
abbrev errText : ByteArray := ⟨#[114, 101, 115, 112, 111, 110, 115, 101, 32, 100, 105, 100, 32, 110, 111, 116, 32, 99, 111, 110, 116, 97, 105, 110, 32, 101, 110, 111, 117, 103, 104, 32, 100, 97, 116, 97, 32, 116, 111, 32, 98, 101, 32, 118, 97, 108, 105, 100]⟩
noncomputable def low : Nat := (World.holding Tryd.prog default ⟨#[], #[], []⟩).heap.size
noncomputable def laidWorld (os : Os) : World :=
  let w0 := World.holding Tryd.prog os ⟨#[.cells #[.string errText] 160], #[], []⟩
  { w0 with heap := w0.heap.modify 1 fun
      | .cells _ t frozen => .cells #[.iface 142 (.pointer (some ⟨low, 0, none⟩))] t frozen
      | o => o }
theorem laidWorld_met (os : Os) (args : Array Value) : laidMetH Tryd.prog Rows.fnUnsafeDescribeConfigsResponseRow.laid ((laidWorld os).forCall (fun _ _ => 0) ⟨#[], args, []⟩).memory :=
  show laidMet Tryd.prog Rows.fnUnsafeDescribeConfigsResponseRow.laid _ from laidMet_of_run' 8 (by kernel_rfl) (by kernel_rfl)
set_option maxRecDepth 100000 in
theorem lifted (os : Os) (started : os.Started) (H : Type) (enc : TypeId × Value → H) :
    ReturnsInHanded {} Tryd.checked os 3 .any (fun w args => (Rows.fnUnsafeDescribeConfigsResponseSpec.pre enc Tryd.prog Tryd.f3 [] false w args ∧ laidMetH Tryd.prog Rows.fnUnsafeDescribeConfigsResponseRow.laid w) ∧ sizedMet enc Tryd.prog Tryd.f3 (OpenSpec.ofChange Rows.fnUnsafeDescribeConfigsResponseSpec) false w args)
      (Rows.fnUnsafeDescribeConfigsResponseSpec.post enc Tryd.prog Tryd.f3 false true false false) := by
  refine returnsInHanded_of_change_and (C := Tryd.checked) (X := fun w _ => laidMetH Tryd.prog Rows.fnUnsafeDescribeConfigsResponseRow.laid w) (fun _ _ _ hh h => h.of_heap hh) own started (by kernel_rfl) Tryd.func3
    (ChangeSpec.witness_at (enc := enc) (C := Tryd.checked) (os := os) (X := fun w _ => laidMetH Tryd.prog Rows.fnUnsafeDescribeConfigsResponseRow.laid w) false (laidWorld os) #[.int .u8 0, .slice none 0 0] 8 rfl (by kernel_rfl) (by kernel_rfl) (by kernel_rfl) (by kernel_rfl) (by kernel_rfl) (laidWorld_met os _)) ?_
  intro W base args ds gs before hval0 hW _ _ hL _
  have hval : ∀ (j : Nat) t v, Tryd.f3.params[j]? = some t → args[j]? = some v → Value.okWide Tryd.prog W .any base t v := hval0
  have hW' := hW
  obtain ⟨p, q, hA0, hV, rfl, hfz, hnd⟩ := hW
  have hA : DataW.TrodAll enc Tryd.prog W 0 (fun _ => true) true Tryd.f3.params.toList args.toList ds p := hA0
  rw [Tryd.params3] at hA hval
  obtain ⟨v0, v1, d0, d1, p0, p1, rfl, rfl, rfl, h0, h1⟩ := trodAll_two hA
  obtain ⟨rfl, rfl⟩ := trodVars_none hV
  obtain ⟨a, rfl, rfl, rfl, wa⟩ := open_int Tryd.underlying5 (hval 0 5 v0 rfl rfl) h0
  obtain ⟨sa, sl, sc, rfl⟩ := okWide_slice Tryd.underlying22 (hval 1 22 v1 rfl rfl)
  obtain ⟨fuel1, hf1⟩ := id h1
  obtain ⟨xs, xv, hxv, _, hxs, _⟩ := open_bytes hf1
  have hxv' : Value.slice sa sl sc = xv := by
    have h : [Value.slice sa sl sc] = [xv] := hxv
    simpa using h
  subst hxv'
  obtain ⟨eu, ex, hev⟩ := err_of_laid hL
  clear hA0 hval0
  simp only [List.append_nil, List.nil_append] at hW'
  have ha : 0 ≤ a ∧ a ≤ 255 := by simpa [Lit.wf, IntKind.min, IntKind.max, IntKind.signed, IntKind.bits] using wa
  have hbx := hxs.bytes
  obtain ⟨sa2, sc2, hsh⟩ := hbx.shape
  simp only [Value.slice.injEq] at hsh
  obtain ⟨rfl, rfl, rfl⟩ := hsh
  have hlaw := fn_law a.toNat (by omega) W eu ex _ _ xs hbx hev
  rw [show ((a.toNat : Nat) : Int) = a from by omega] at hlaw
  refine Calls.mono hlaw fun e W' he => ?_
  obtain ⟨v, rfl, hb, rfl⟩ := he
  refine ⟨_, rfl, _, _, _, [], p1, [], hW', trodAll_mk1 (shut_bool Tryd.underlying4 _), ?_, ?_, hb.frame _, fun h => by cases h⟩
  · exact trodAll_mk2 (shut_int Tryd.underlying5 wa) (Below.trod laidOut (by kernel_rfl) (Nat.le_of_ble_eq_true (by kernel_rfl)) h1 hb (fun x hx => hW'.lt x hx))
  · rfl
theorem said : Rows.FnUnsafeDescribeConfigsResponseSaid :=
  OpenClaim.holds_of_wide 3 Tryd.f3 rfl rfl rfl rfl rfl rfl rfl ⟨rfl, rfl, rfl, rfl, rfl⟩ rfl rfl rfl rfl rfl (by kernel_rfl) Tryd.func3 (by kernel_rfl)
    (of_decide_eq_true (by kernel_rfl)) (by unfold Func.isWrapper; first | (rw [if_pos (by decide +kernel)]; kernel_rfl) | (rw [if_neg (by decide +kernel)]; exact ⟨rfl, rfl⟩))
    (fun os started H enc _ => lifted os started H enc)
theorem row_tie : Rows.fnUnsafeDescribeConfigsResponseRow.laidByTextAt .later Tryd.pinned [.sentinel] true :=
  OpenClaim.laidByTextAt_later rfl rfl tie (by kernel_rfl)
theorem holds : Rows.FnUnsafeDescribeConfigsResponseCardSaid :=
  Claim7.holds_tied_plain_at .later [] [.sentinel] true (true, "bfdb6af65842d9d72ba2da7933ca49cfe80daf84bda7fd29925855b5a8e68643") false
    said (fun _ h => by cases h) (by kernel_rfl) (fun _ h => by cases h) row_tie rfl ⟨rfl, rfl⟩ (by kernel_rfl) rfl
    (fun f fn hf hfn => by
      obtain rfl : f = 3 := Option.some.inj ((show Tryd.prog.funcNamed "pub-mailsack/laws.FnUnsafeDescribeConfigsResponse" = some 3 by kernel_rfl).symm.trans hf) |>.symm
      obtain rfl : fn = Tryd.f3 := (Option.some.inj (Tryd.func3.symm.trans hfn)).symm
      exact ⟨by kernel_rfl, fun j t ht => by
        rw [Tryd.params3] at ht
        have hh : Tryd.prog.wantsStandIn 5 = false ∧ Tryd.prog.wantsStandIn 22 = false := ⟨by kernel_rfl, by kernel_rfl⟩
        match j, ht with
        | 0, ht => obtain rfl : 5 = t := by simpa using ht
                   exact hh.1
        | 1, ht => obtain rfl : 22 = t := by simpa using ht
                   exact hh.2
        | j + 2, ht => simp at ht⟩)
    (by kernel_rfl)
end Go.Proofs.YtgpnpfiafcakfaaDoor.BDescribeConfigsResponse
