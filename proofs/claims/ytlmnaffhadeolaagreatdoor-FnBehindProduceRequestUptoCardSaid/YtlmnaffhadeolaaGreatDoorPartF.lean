/- FnBehindProduceRequest: the row, and its card, its one listed variable tied to the program's text (the tie is given). Conditions: those of the row, no others. -/
import Derived.Test.YtlmnaffhadeolaaGreatDoorPartE
import Derived.Test.YtlmnaffhadeolaaGreatDoorPartC
import Derived.Carry
import Derived.Test.YtlmnaffhadeolaaGreatDoorPartA
import Derived.Test.YtlmnaffhadeolaaGreatDoorPartD
import Derived.Test.YtlmnaffhadeolaaGreatDoorProg
import Derived.Shelf.GgSortFunc.Whole
import Derived.Shelf.GgSortFunc.Tiny
import Derived.Ground.GgsProg
import Derived.Test.YtlmnaffhadeolaaGreatDoorPartB
import Derived.Deep.QuietTactic
import Derived.Sort.LotA
import Derived.ProofKit
import Derived.OpenShut
import Derived.Test.YtlmnaffhadeolaaGreatDoorRows
import Derived.Test.YtlmnaffhadeolaaGreatDoorCards
import Derived.Test.YtlmnaffhadeolaaGreatDoorTie
import Derived.ChangeSame
import Derived.ChangeVars
import Derived.JoinedOf
import Derived.RowKit
import Derived.RowKitTokens
import Derived.LaidLaws
import Derived.LaidHandle
import Derived.Stop.Joined
import Derived.SevenTiedAt
import Derived.Deep.DeepHandedRow
import Derived.Deep.DeepWitnessRowRef
set_option linter.all false
namespace Go.Proofs.YtlmnaffhadeolaaGreatDoor.Rdk
open Go Go.RowKit
set_option maxRecDepth 100000
def IntRel (k : IntKind) (n : Nat) (st : Option (List UInt8)) (m : Int) (st' : Option (List UInt8)) : Prop := match st with
 | none => st' = none
 | some s => match intP k n s with
  | some x => st' = some x.2 ∧ m = x.1
  | none => st' = none
theorem int_of_rd {P : Program} {f : Nat} {p : Rp} (h : RdC P f p) (k : IntKind) (n : Nat) (hp : ∀ s, rdP p s = (intP k n s).map fun x => ([.lit (.int k x.1)], x.2)) (hsh : shR p = [.int k]) (w : World) (rb sb lo : Nat) (st : Option (List UInt8)) (hr : Rdr w rb sb st) (h1 : rb < lo) (h2 : sb < lo) (h3 : lo ≤ w.heap.size) (h4 : rb ≠ sb) :
  Calls P f #[.pointer (some ⟨rb, 0, none⟩)] w fun e w' => ∃ m st', e = .returned (.int k m) ∧ k.wrap m = m ∧ Chg (· = rb) w w' ∧ Rdr w' rb sb st' ∧ IntRel k n st m st' := by
 refine (h w rb sb lo st hr h1 h2 h3 h4).mono (fun e w' he => ?_)
 obtain ⟨v, nd, st', rfl, hc, hr', hrep, hall, hone, hrel⟩ := he
 have hv1 := hone (by rw [hsh]; rfl)
 have hlist : v.cells.toList = [v] := by rw [hv1]
 rw [hlist] at hrep
 have hck := reps_ck _ _ hrep 0 (.int k) v (by rw [hrel.1, hsh]; rfl) rfl
 obtain ⟨m, rfl, hwr⟩ := hck
 refine ⟨m, st', rfl, hwr, hc, hr', ?_⟩
 have h3 := hrel.2.2
 cases st with
 | none => exact h3
 | some s =>
  simp only [hp] at h3
  simp only [IntRel]
  cases hx : intP k n s with
  | none => rw [hx] at h3; exact h3
  | some x =>
   rw [hx] at h3
   simp only [Option.map_some] at h3
   obtain ⟨e1, rfl⟩ := h3
   simp only [Reps, Rep] at hrep
   obtain ⟨c1, c2, e2, rfl, rfl⟩ := hrep
   simp only [List.append_nil, List.cons.injEq, Value.int.injEq, true_and, and_true] at e2
   exact ⟨e1, e2⟩
def preP (c : Bool) (s : List UInt8) : Option (Int × List UInt8) := if c then (uvarP s).map fun x => (IntKind.i32.wrap (IntKind.i32.wrap x.1 - 1), x.2) else intP .i32 4 s
def PreRel (c : Bool) (st : Option (List UInt8)) (m : Int) (st' : Option (List UInt8)) : Prop := match st with
 | none => st' = none
 | some s => match preP c s with
  | some x => st' = some x.2 ∧ m = x.1
  | none => st' = none
theorem len_fail {X : Prop} {c : Bool} {st st1 : Option (List UInt8)} {m l : Int} {s1 : List UInt8} (h : PreRel c st m st1) (hv : (st1 = none ∧ s1 = [] ∧ X) ∨ st1 = some s1) (hlt : (s1.length : Int) < m) : LenRel c st l none := by
 unfold LenRel
 unfold PreRel at h
 cases st with
 | none => rfl
 | some s =>
  simp only [] at h ⊢
  have e : lenP c s = (preP c s).bind fun x => if (x.2.length : Int) < x.1 then none else some x := rfl
  rw [e]
  cases hx : preP c s with
  | none => simp
  | some x =>
   rw [hx] at h
   obtain ⟨rfl, rfl⟩ := h
   rcases hv with ⟨hv, _⟩ | hv
   ·cases hv
   ·simp only [Option.some.injEq] at hv
    subst hv
    simp only [Option.bind_some]
    rw [if_pos hlt]
    trivial
theorem len_ok {X : Prop} {c : Bool} {st st1 : Option (List UInt8)} {m : Int} {s1 : List UInt8} (h : PreRel c st m st1) (hv : (st1 = none ∧ s1 = [] ∧ X) ∨ st1 = some s1) (hlt : ¬ (s1.length : Int) < m) : LenRel c st m st1 := by
 unfold LenRel
 unfold PreRel at h
 cases st with
 | none => exact h
 | some s =>
  simp only [] at h ⊢
  have e : lenP c s = (preP c s).bind fun x => if (x.2.length : Int) < x.1 then none else some x := rfl
  rw [e]
  cases hx : preP c s with
  | none => rw [hx] at h; exact h
  | some x =>
   rw [hx] at h
   obtain ⟨rfl, rfl⟩ := h
   rcases hv with ⟨hv, _⟩ | hv
   ·cases hv
   ·simp only [Option.some.injEq] at hv
    subst hv
    simp only [Option.bind_some]
    rw [if_neg hlt]
    exact ⟨rfl, rfl⟩
theorem len_ArrayLen : LenC Tryz.prog 107 false := by
 intro w rb sb lo st hr h1 h2 h3 h4
 refine enter Tryz.func107 rfl Tryz.ntmps107 rfl ?_
 refine wc_seq (wc_region (wl_assign rfl rfl (wl_nil (qk_thn ?_))))
 refine wc_seq (wc_region ?_)
 refine ws rfl rfl ?_
 refine wl_call rfl (by kernel_rfl) rfl ((int_of_rd rd_Int32 .i32 4 (fun s => rfl) rfl w rb sb lo st hr h1 h2 h3 h4).mono ?_)
 rintro en w1 ⟨m, st1, rfl, hwr, hc1, hr1, hrel⟩
 refine ⟨_, rfl, ?_⟩
 refine ws rfl rfl ?_
 refine wl_nil (qk_thn ?_)
 have hs1 := hc1.size
 have hpre : PreRel false st m st1 := by
  cases st with
  | none => exact hrel
  | some s => exact hrel
 have hrange : IntKind.i64.wrap m = m := by rw [IntKind.wrap_i32] at hwr; rw [IntKind.wrap_i64]; omega
 obtain ⟨a, c, s1, e, hb, hle, hlim, hsv, hst⟩ := hr1.view
 refine wc_seq (wc_seq (wc_region ?_))
 refine ws rfl rfl ?_
 refine ws rfl rfl ?_
 refine ws rfl rfl ?_
 refine wl_loadB rfl to_bytes rfl hb rfl ?_
 refine ws rfl rfl ?_
 refine ws rfl rfl ?_
 refine wl_conv .i64 rfl (by kernel_rfl) (by kernel_rfl) rfl hrange ?_
 refine ws rfl rfl ?_
 refine wl_nil (qk_thn ?_)
 refine wc_cond rfl (fun hc => ?_) (fun hc => ?_)
 ·refine wc_seq (wc_region ?_)
  refine ws rfl rfl ?_
  refine ws rfl rfl ?_
  refine ws rfl rfl ?_
  refine wl_storeB rfl rfl to_bool rfl hb rfl (fun w1 hb1 g1 _ => ?_)
  refine wl_nil (qk_thn ?_)
  refine wc_seq (wc_region ?_)
  refine ws rfl rfl ?_
  refine ws rfl rfl ?_
  refine ws rfl rfl ?_
  refine wl_storeB rfl rfl to_bytes rfl hb1 rfl (fun w2 hb2 g2 _ => ?_)
  refine wl_nil (qk_thn ?_)
  refine wc_seq (wc_region ?_)
  refine ws rfl rfl ?_
  refine wl_nil (qk_thn (wc_ret (qk_thn_ret (qk_ret1 rfl rfl ?_))))
  exact ⟨0, none, rfl, hc1.trans ((Chg.grown g1).trans (Chg.grown g2)), ⟨e, hb2⟩, len_fail hpre hst (by simpa using hc)⟩
 ·refine wc_skip (qk_thn (wc_seq (wc_region ?_)))
  refine ws rfl rfl ?_
  refine ws rfl rfl ?_
  exact wl_nil (qk_thn (wc_ret (qk_ret1 rfl rfl ⟨_, st1, rfl, hc1, hr1, len_ok hpre hst (by simpa using hc)⟩)))
theorem len_CompactArrayLen : LenC Tryz.prog 106 true := by
 intro w rb sb lo st hr h1 h2 h3 h4
 refine enter Tryz.func106 rfl Tryz.ntmps106 rfl ?_
 refine wc_seq (wc_region (wl_assign rfl rfl (wl_nil (qk_thn ?_))))
 refine wc_seq (wc_region ?_)
 refine ws rfl rfl ?_
 refine wl_call rfl (by kernel_rfl) rfl ((fn_ruv w rb sb st hr h4).mono ?_)
 rintro en w1 ⟨u, st1, rfl, hc1, hr1, hrel⟩
 refine ⟨_, rfl, ?_⟩
 refine wl_conv .i32 (r := IntKind.i32.wrap u) rfl (by kernel_rfl) (by kernel_rfl) rfl rfl ?_
 refine wl_sub' (r := IntKind.i32.wrap (IntKind.i32.wrap u - 1)) rfl rfl rfl rfl ?_
 refine ws rfl rfl ?_
 refine wl_nil (qk_thn ?_)
 have hs1 := hc1.size
 have hpre : PreRel true st (IntKind.i32.wrap (IntKind.i32.wrap u - 1)) st1 := by
  cases st with
  | none => exact hrel.2
  | some s =>
   have h5 := hrel.2
   simp only [PreRel, preP, if_true] at h5 ⊢
   cases hx : uvarP s with
   | none => rw [hx] at h5; exact h5
   | some x => rw [hx] at h5; obtain ⟨rfl, rfl⟩ := h5; exact ⟨rfl, rfl⟩
 have hrange : IntKind.i64.wrap (IntKind.i32.wrap (IntKind.i32.wrap u - 1)) = IntKind.i32.wrap (IntKind.i32.wrap u - 1) := by simp only [IntKind.wrap_i32]; rw [IntKind.wrap_i64]; omega
 obtain ⟨a, c, s1, e, hb, hle, hlim, hsv, hst⟩ := hr1.view
 refine wc_seq (wc_seq (wc_region ?_))
 refine ws rfl rfl ?_
 refine ws rfl rfl ?_
 refine ws rfl rfl ?_
 refine wl_loadB rfl to_bytes rfl hb rfl ?_
 refine ws rfl rfl ?_
 refine ws rfl rfl ?_
 refine wl_conv .i64 rfl (by kernel_rfl) (by kernel_rfl) rfl hrange ?_
 refine ws rfl rfl ?_
 refine wl_nil (qk_thn ?_)
 refine wc_cond rfl (fun hc => ?_) (fun hc => ?_)
 ·refine wc_seq (wc_region ?_)
  refine ws rfl rfl ?_
  refine ws rfl rfl ?_
  refine ws rfl rfl ?_
  refine wl_storeB rfl rfl to_bool rfl hb rfl (fun w1 hb1 g1 _ => ?_)
  refine wl_nil (qk_thn ?_)
  refine wc_seq (wc_region ?_)
  refine ws rfl rfl ?_
  refine ws rfl rfl ?_
  refine ws rfl rfl ?_
  refine wl_storeB rfl rfl to_bytes rfl hb1 rfl (fun w2 hb2 g2 _ => ?_)
  refine wl_nil (qk_thn ?_)
  refine wc_seq (wc_region ?_)
  refine ws rfl rfl ?_
  refine wl_nil (qk_thn (wc_ret (qk_thn_ret (qk_ret1 rfl rfl ?_))))
  exact ⟨0, none, rfl, hc1.trans ((Chg.grown g1).trans (Chg.grown g2)), ⟨e, hb2⟩, len_fail hpre hst (by simpa using hc)⟩
 ·refine wc_skip (qk_thn (wc_seq (wc_region ?_)))
  refine ws rfl rfl ?_
  refine ws rfl rfl ?_
  exact wl_nil (qk_thn (wc_ret (qk_ret1 rfl rfl ⟨_, st1, rfl, hc1, hr1, len_ok hpre hst (by simpa using hc)⟩)))
theorem bytes_ty : (match Tryz.prog.underlying 22 with | some (.slice e) => (match Tryz.prog.underlying e with | some (.int .u8) => true | _ => false) | _ => false) = true := by kernel_rfl
theorem str_ty : (match Tryz.prog.underlying 9 with | some .string => true | _ => false) = true := by kernel_rfl
def cntP (c : Bool) (k : IntKind) (n : Nat) (s : List UInt8) : Option (Int × List UInt8) := if c then (uvarP s).map fun x => ((x.1 : Int) - 1, x.2) else intP k n s
def CntRel (c : Bool) (k : IntKind) (n : Nat) (st : Option (List UInt8)) (m : Int) (st' : Option (List UInt8)) : Prop := match st with
 | none => st' = none
 | some s => match cntP c k n s with
  | some x => st' = some x.2 ∧ m = x.1
  | none => st' = none
theorem cnt_i {k : IntKind} {n : Nat} {st st' : Option (List UInt8)} {m : Int} (h : IntRel k n st m st') : CntRel false k n st m st' := by
 cases st with
 | none => exact h
 | some s => exact h
theorem cnt_u {k : IntKind} {n : Nat} {st st' : Option (List UInt8)} {u : Nat} (h : UvRel st u st') : CntRel true k n st ((u : Int) - 1) st' := by
 have h2 := h.2
 cases st with
 | none => exact h2
 | some s =>
  simp only [CntRel, cntP, if_true] at h2 ⊢
  cases hx : uvarP s with
  | none => rw [hx] at h2; exact h2
  | some x => rw [hx] at h2; obtain ⟨rfl, rfl⟩ := h2; exact ⟨rfl, rfl⟩
def TxtRel (c : Bool) (k : IntKind) (n : Nat) (st : Option (List UInt8)) (s1 : List UInt8) (st2 : Option (List UInt8)) : Prop := match st with
 | none => st2 = none
 | some s => match (cntP c k n s).bind fun x => spanP x.1 x.2 with
  | some y => st2 = some y.2 ∧ s1 = y.1
  | none => st2 = none
theorem span_rel {c : Bool} {k : IntKind} {n : Nat} {st st1 st2 : Option (List UInt8)} {m : Int} {s1 : List UInt8} (h : CntRel c k n st m st1) (h2 : SpanRel m st1 s1 st2) : TxtRel c k n st s1 st2 := by
 unfold TxtRel
 cases st with
 | none => simp only [CntRel] at h; subst h; exact h2
 | some s =>
  simp only [CntRel] at h
  simp only []
  cases hx : cntP c k n s with
  | none => rw [hx] at h; simp only [] at h; subst h; exact h2
  | some x =>
   rw [hx] at h
   obtain ⟨rfl, rfl⟩ := h
   simp only [Option.bind_some]
   exact h2
theorem Rdr.box' {w : World} {rb sb : Nat} {st : Option (List UInt8)} (h : Rdr w rb sb st) : rb < w.heap.size := by
 obtain ⟨_, _, _, _, hb, _⟩ := h.view
 exact hb.lt
theorem new_only {w w1 w2 : World} {rb : Nat} (h1 : Chg (fun _ => False) w w1) (h2 : Chg (· = w.heap.size) w1 w2) : Chg (· = rb) w w2 :=
 ⟨h2.os.trans h1.os, h2.tape.trans h1.tape, h2.output.trans h1.output, Nat.le_trans h1.size h2.size, fun k hk _ => (h2.block k (Nat.lt_of_lt_of_le hk h1.size) (fun e => by have e' : k = w.heap.size := e; omega)).trans (h1.block k hk id)⟩
theorem zv_str (w : World) : (zeroValue 9).run Tryz.prog w = .ok (.string ByteArray.empty) w := by kernel_rfl
theorem to_str : tyOne Tryz.prog 9 = true := by kernel_rfl
theorem str_rel {c : Bool} {st st2 : Option (List UInt8)} {s1 : List UInt8} (h : TxtRel c .i16 2 st s1 st2) : RdRel (if c then .cstr else .str) st [D.lit (strV s1)] st2 := by
 refine ⟨by cases c <;> rfl, fun d hd => by simp at hd; subst hd; rfl, ?_⟩
 unfold TxtRel at h
 cases st with
 | none => exact h
 | some s =>
  simp only [] at h ⊢
  have e : rdP (if c then .cstr else .str) s = ((cntP c .i16 2 s).bind fun x => spanP x.1 x.2).map fun y => ([.lit (strV y.1)], y.2) := by
   cases c
   ·simp only [Bool.false_eq_true, if_false, rdP, cntP]
    cases intP .i16 2 s <;> rfl
   ·simp only [if_true, rdP, cntP]
    cases uvarP s <;> rfl
  rw [e]
  cases hx : (cntP c .i16 2 s).bind fun x => spanP x.1 x.2 with
  | none => rw [hx] at h; exact h
  | some y => rw [hx] at h; obtain ⟨rfl, rfl⟩ := h; exact ⟨rfl, rfl⟩
theorem nul_rel {c : Bool} {st st1 : Option (List UInt8)} {m : Int} (h : CntRel c .i16 2 st m st1) (hn : m < 0) : RdRel (if c then .cnstr else .nstr) st [D.lit (.pointer none)] st1 := by
 refine ⟨by cases c <;> rfl, fun d hd => by simp at hd; subst hd; rfl, ?_⟩
 cases st with
 | none => exact h
 | some s =>
  simp only [CntRel] at h ⊢
  cases c
  ·simp only [cntP, Bool.false_eq_true, if_false, rdP] at h ⊢
   cases hx : intP .i16 2 s with
   | none => rw [hx] at h; exact h
   | some x =>
    rw [hx] at h
    obtain ⟨rfl, rfl⟩ := h
    simp only [Option.bind_some]
    rw [if_pos hn]
    exact ⟨rfl, rfl⟩
  ·simp only [cntP, if_true, rdP] at h ⊢
   cases hx : uvarP s with
   | none => rw [hx] at h; exact h
   | some x =>
    rw [hx] at h
    obtain ⟨rfl, rfl⟩ := h
    simp only [Option.bind_some]
    rw [if_pos hn]
    exact ⟨rfl, rfl⟩
theorem nstr_rel {c : Bool} {st st1 st2 : Option (List UInt8)} {s1 : List UInt8} {m : Int} (h0 : CntRel c .i16 2 st m st1) (hn : ¬ m < 0) (h : TxtRel c .i16 2 st s1 st2) : RdRel (if c then .cnstr else .nstr) st [D.ptr (.lit (strV s1))] st2 := by
 refine ⟨by cases c <;> rfl, fun d hd => by simp at hd; subst hd; rfl, ?_⟩
 unfold TxtRel at h
 cases st with
 | none => exact h
 | some s =>
  simp only [CntRel] at h0
  simp only [] at h ⊢
  cases c
  ·simp only [cntP, Bool.false_eq_true, if_false, rdP] at h0 h ⊢
   cases hx : intP .i16 2 s with
   | none => rw [hx] at h; exact h
   | some x =>
    rw [hx] at h h0
    obtain ⟨rfl, rfl⟩ := h0
    simp only [Option.bind_some] at h ⊢
    rw [if_neg hn]
    cases hy : spanP x.1 x.2 with
    | none => rw [hy] at h; exact h
    | some y => rw [hy] at h; obtain ⟨rfl, rfl⟩ := h; exact ⟨rfl, rfl⟩
  ·simp only [cntP, if_true, rdP] at h0 h ⊢
   cases hx : uvarP s with
   | none => rw [hx] at h; exact h
   | some x =>
    rw [hx] at h h0
    obtain ⟨rfl, rfl⟩ := h0
    simp only [Option.map_some, Option.bind_some] at h ⊢
    rw [if_neg hn]
    cases hy : spanP ((x.1 : Int) - 1) x.2 with
    | none => rw [hy] at h; exact h
    | some y => rw [hy] at h; obtain ⟨rfl, rfl⟩ := h; exact ⟨rfl, rfl⟩
theorem rd_String : RdC Tryz.prog 114 .str := by
 intro w rb sb lo st hr h1 h2 h3 h4
 refine enter Tryz.func114 rfl Tryz.ntmps114 rfl ?_
 refine wc_seq (wc_region (wl_assign rfl rfl (wl_nil (qk_thn ?_))))
 refine wc_seq (wc_region ?_)
 refine ws rfl rfl ?_
 refine wl_call rfl (by kernel_rfl) rfl ((int_of_rd rd_Int16 .i16 2 (fun s => rfl) rfl w rb sb lo st hr h1 h2 h3 h4).mono ?_)
 rintro en w1 ⟨m, st1, rfl, hwr, hc1, hr1, hrel⟩
 refine ⟨_, rfl, ?_⟩
 refine ws rfl rfl ?_
 refine wl_nil (qk_thn ?_)
 have hs1 := hc1.size
 have hcnt : CntRel false .i16 2 st m st1 := cnt_i hrel
 have hrange : IntKind.i64.wrap m = m := by rw [wrap_i16] at hwr; rw [IntKind.wrap_i64]; omega
 refine wc_seq (wc_region ?_)
 refine ws rfl rfl ?_
 refine ws rfl rfl ?_
 refine wl_conv .i64 rfl (by kernel_rfl) (by kernel_rfl) rfl hrange ?_
 refine wl_call rfl (by kernel_rfl) rfl ((fn_span w1 rb sb st1 (m) hr1 h4).mono ?_)
 rintro en w2 ⟨v, s1, st2, rfl, hc2, hr2, hsv, hlim, hspan⟩
 refine ⟨_, rfl, ?_⟩
 refine wl_toStr (sb := sb) (bs := s1) rfl hsv bytes_ty str_ty rfl ?_
 have hs2 := hc2.size
 refine ws rfl rfl ?_
 refine wl_nil (qk_thn (wc_ret (qk_ret1 rfl rfl ?_)))
 refine ⟨strV s1, [.lit (strV s1)], st2, rfl, hc1.trans hc2, hr2, reps_lits [_], rfl, fun _ => rfl, ?_⟩
 exact str_rel (c := false) (span_rel hcnt hspan)
theorem rd_CompactString : RdC Tryz.prog 113 .cstr := by
 intro w rb sb lo st hr h1 h2 h3 h4
 refine enter Tryz.func113 rfl Tryz.ntmps113 rfl ?_
 refine wc_seq (wc_region (wl_assign rfl rfl (wl_nil (qk_thn ?_))))
 refine wc_seq (wc_region ?_)
 refine ws rfl rfl ?_
 refine wl_call rfl (by kernel_rfl) rfl ((fn_ruv w rb sb st hr h4).mono ?_)
 rintro en w1 ⟨u, st1, rfl, hc1, hr1, hrel⟩
 refine ⟨_, rfl, ?_⟩
 have hul := hrel.1
 refine wl_conv .i64 (r := (u : Int)) rfl (by kernel_rfl) (by kernel_rfl) rfl (by rw [IntKind.wrap_i64]; omega) ?_
 refine wl_sub' (r := (u : Int) - 1) rfl rfl rfl (by rw [IntKind.wrap_i64]; omega) ?_
 refine ws rfl rfl ?_
 refine wl_nil (qk_thn ?_)
 have hs1 := hc1.size
 have hcnt : CntRel true .i16 2 st ((u : Int) - 1) st1 := cnt_u hrel
 refine wc_seq (wc_region ?_)
 refine ws rfl rfl ?_
 refine ws rfl rfl ?_
 refine wl_call rfl (by kernel_rfl) rfl ((fn_span w1 rb sb st1 ((u : Int) - 1) hr1 h4).mono ?_)
 rintro en w2 ⟨v, s1, st2, rfl, hc2, hr2, hsv, hlim, hspan⟩
 refine ⟨_, rfl, ?_⟩
 refine wl_toStr (sb := sb) (bs := s1) rfl hsv bytes_ty str_ty rfl ?_
 have hs2 := hc2.size
 refine ws rfl rfl ?_
 refine wl_nil (qk_thn (wc_ret (qk_ret1 rfl rfl ?_)))
 refine ⟨strV s1, [.lit (strV s1)], st2, rfl, hc1.trans hc2, hr2, reps_lits [_], rfl, fun _ => rfl, ?_⟩
 exact str_rel (c := true) (span_rel hcnt hspan)
theorem rd_NullableString : RdC Tryz.prog 125 .nstr := by
 intro w rb sb lo st hr h1 h2 h3 h4
 refine enter Tryz.func125 rfl Tryz.ntmps125 rfl ?_
 refine wc_seq (wc_region (wl_assign rfl rfl (wl_nil (qk_thn ?_))))
 refine wc_seq (wc_region ?_)
 refine ws rfl rfl ?_
 refine wl_call rfl (by kernel_rfl) rfl ((int_of_rd rd_Int16 .i16 2 (fun s => rfl) rfl w rb sb lo st hr h1 h2 h3 h4).mono ?_)
 rintro en w1 ⟨m, st1, rfl, hwr, hc1, hr1, hrel⟩
 refine ⟨_, rfl, ?_⟩
 refine ws rfl rfl ?_
 refine wl_nil (qk_thn ?_)
 have hs1 := hc1.size
 have hcnt : CntRel false .i16 2 st m st1 := cnt_i hrel
 have hrange : IntKind.i64.wrap m = m := by rw [wrap_i16] at hwr; rw [IntKind.wrap_i64]; omega
 refine wc_seq (wc_seq (wc_region ?_))
 refine ws rfl rfl ?_
 refine ws rfl rfl ?_
 refine wl_nil (qk_thn ?_)
 refine wc_cond rfl (fun hc => ?_) (fun hc => ?_)
 ·refine wc_seq (wc_region ?_)
  refine ws rfl rfl ?_
  refine wl_nil (qk_thn (wc_ret (qk_thn_ret (qk_ret1 rfl rfl ?_))))
  have hneg : m < 0 := by simpa using hc
  refine ⟨_, [.lit (.pointer none)], st1, rfl, hc1, hr1, reps_lits [_], rfl, fun _ => rfl, ?_⟩
  exact nul_rel (c := false) hcnt hneg
 refine wc_skip (qk_thn ?_)
 have hnn : ¬ m < 0 := by simpa using hc
 refine wc_seq (wc_region ?_)
 refine ws rfl rfl ?_
 refine ws rfl rfl ?_
 refine wl_conv .i64 rfl (by kernel_rfl) (by kernel_rfl) rfl hrange ?_
 refine wl_call rfl (by kernel_rfl) rfl ((fn_span w1 rb sb st1 (m) hr1 h4).mono ?_)
 rintro en w2 ⟨v, s1, st2, rfl, hc2, hr2, hsv, hlim, hspan⟩
 refine ⟨_, rfl, ?_⟩
 refine wl_toStr (sb := sb) (bs := s1) rfl hsv bytes_ty str_ty rfl ?_
 have hs2 := hc2.size
 refine wl_alloc zv_str rfl rfl (fun w3 hb3 hg3 hs3 => ?_)
 refine wl_storeB rfl rfl to_str rfl hb3 rfl (fun w4 hb4 hg4 _ => ?_)
 refine wl_nil (qk_thn (wc_seq (wc_region ?_)))
 refine ws rfl rfl ?_
 refine wl_nil (qk_thn (wc_ret (qk_ret1 rfl rfl ?_)))
 have c3 : Chg (fun _ => False) w2 w3 := Chg.grown0 hg3
 have c4 : Chg (· = w2.heap.size) w3 w4 := Chg.grown hg4
 have hrb := Rdr.box' hr
 have c34 : Chg (· = rb) w2 w4 := new_only c3 c4
 have hsz4 := c4.size
 refine ⟨_, [.ptr (.lit (strV s1))], st2, rfl, (hc1.trans hc2).trans c34, (hr2.chg c3 id id).chg c4 (by omega) (by omega), ?_, rfl, fun _ => rfl, ?_⟩
 ·refine ⟨[_], [], rfl, ⟨w2.heap.size, _, rfl, ⟨.inr (by omega), by omega⟩, hb4.cells, rfl⟩, rfl⟩
 ·exact nstr_rel (c := false) hcnt hnn (span_rel hcnt hspan)
theorem rd_CompactNullableString : RdC Tryz.prog 123 .cnstr := by
 intro w rb sb lo st hr h1 h2 h3 h4
 refine enter Tryz.func123 rfl Tryz.ntmps123 rfl ?_
 refine wc_seq (wc_region (wl_assign rfl rfl (wl_nil (qk_thn ?_))))
 refine wc_seq (wc_region ?_)
 refine ws rfl rfl ?_
 refine wl_call rfl (by kernel_rfl) rfl ((fn_ruv w rb sb st hr h4).mono ?_)
 rintro en w1 ⟨u, st1, rfl, hc1, hr1, hrel⟩
 refine ⟨_, rfl, ?_⟩
 have hul := hrel.1
 refine wl_conv .i64 (r := (u : Int)) rfl (by kernel_rfl) (by kernel_rfl) rfl (by rw [IntKind.wrap_i64]; omega) ?_
 refine wl_sub' (r := (u : Int) - 1) rfl rfl rfl (by rw [IntKind.wrap_i64]; omega) ?_
 refine ws rfl rfl ?_
 refine wl_nil (qk_thn ?_)
 have hs1 := hc1.size
 have hcnt : CntRel true .i16 2 st ((u : Int) - 1) st1 := cnt_u hrel
 refine wc_seq (wc_seq (wc_region ?_))
 refine ws rfl rfl ?_
 refine ws rfl rfl ?_
 refine wl_nil (qk_thn ?_)
 refine wc_cond rfl (fun hc => ?_) (fun hc => ?_)
 ·refine wc_seq (wc_region ?_)
  refine ws rfl rfl ?_
  refine wl_nil (qk_thn (wc_ret (qk_thn_ret (qk_ret1 rfl rfl ?_))))
  have hneg : (u : Int) - 1 < 0 := by simpa using hc
  refine ⟨_, [.lit (.pointer none)], st1, rfl, hc1, hr1, reps_lits [_], rfl, fun _ => rfl, ?_⟩
  exact nul_rel (c := true) hcnt hneg
 refine wc_skip (qk_thn ?_)
 have hnn : ¬ (u : Int) - 1 < 0 := by simpa using hc
 refine wc_seq (wc_region ?_)
 refine ws rfl rfl ?_
 refine ws rfl rfl ?_
 refine wl_call rfl (by kernel_rfl) rfl ((fn_span w1 rb sb st1 ((u : Int) - 1) hr1 h4).mono ?_)
 rintro en w2 ⟨v, s1, st2, rfl, hc2, hr2, hsv, hlim, hspan⟩
 refine ⟨_, rfl, ?_⟩
 refine wl_toStr (sb := sb) (bs := s1) rfl hsv bytes_ty str_ty rfl ?_
 have hs2 := hc2.size
 refine wl_alloc zv_str rfl rfl (fun w3 hb3 hg3 hs3 => ?_)
 refine wl_storeB rfl rfl to_str rfl hb3 rfl (fun w4 hb4 hg4 _ => ?_)
 refine wl_nil (qk_thn (wc_seq (wc_region ?_)))
 refine ws rfl rfl ?_
 refine wl_nil (qk_thn (wc_ret (qk_ret1 rfl rfl ?_)))
 have c3 : Chg (fun _ => False) w2 w3 := Chg.grown0 hg3
 have c4 : Chg (· = w2.heap.size) w3 w4 := Chg.grown hg4
 have hrb := Rdr.box' hr
 have c34 : Chg (· = rb) w2 w4 := new_only c3 c4
 have hsz4 := c4.size
 refine ⟨_, [.ptr (.lit (strV s1))], st2, rfl, (hc1.trans hc2).trans c34, (hr2.chg c3 id id).chg c4 (by omega) (by omega), ?_, rfl, fun _ => rfl, ?_⟩
 ·refine ⟨[_], [], rfl, ⟨w2.heap.size, _, rfl, ⟨.inr (by omega), by omega⟩, hb4.cells, rfl⟩, rfl⟩
 ·exact nstr_rel (c := true) hcnt hnn (span_rel hcnt hspan)
end Go.Proofs.YtlmnaffhadeolaaGreatDoor.Rdk

namespace Go.Proofs.YtlmnaffhadeolaaGreatDoor.Rdk
open Go Go.RowKit
set_option maxRecDepth 100000
theorem nby_nul {c : Bool} {st st1 : Option (List UInt8)} {m : Int} (h : CntRel c .i32 4 st m st1) (hn : m < 0) : RdRel (if c then .cnbytes else .nbytes) st [D.sl true []] st1 := by
 refine ⟨by cases c <;> rfl, fun d hd => by simp at hd; subst hd; rfl, ?_⟩
 cases st with
 | none => exact h
 | some s =>
  simp only [CntRel] at h ⊢
  cases c
  ·simp only [cntP, Bool.false_eq_true, if_false, rdP] at h ⊢
   cases hx : intP .i32 4 s with
   | none => rw [hx] at h; exact h
   | some x =>
    rw [hx] at h
    obtain ⟨rfl, rfl⟩ := h
    simp only [Option.bind_some]
    rw [if_pos hn]
    exact ⟨rfl, rfl⟩
  ·simp only [cntP, if_true, rdP] at h ⊢
   cases hx : uvarP s with
   | none => rw [hx] at h; exact h
   | some x =>
    rw [hx] at h
    obtain ⟨rfl, rfl⟩ := h
    simp only [Option.bind_some]
    rw [if_pos hn]
    exact ⟨rfl, rfl⟩
theorem nby_rel {c b : Bool} {st st2 : Option (List UInt8)} {m : Int} {st1 : Option (List UInt8)} {s1 : List UInt8} (h0 : CntRel c .i32 4 st m st1) (hn : ¬ m < 0) (h : TxtRel c .i32 4 st s1 st2) (hb : st2.isSome = true → b = false) : RdRel (if c then .cnbytes else .nbytes) st [D.sl b (s1.map byteD)] st2 := by
 refine ⟨by cases c <;> rfl, fun d hd => by simp at hd; subst hd; rfl, ?_⟩
 unfold TxtRel at h
 cases st with
 | none => exact h
 | some s =>
  simp only [CntRel] at h0
  simp only [] at h ⊢
  cases c
  ·simp only [cntP, Bool.false_eq_true, if_false, rdP] at h0 h ⊢
   cases hx : intP .i32 4 s with
   | none => rw [hx] at h; exact h
   | some x =>
    rw [hx] at h h0
    obtain ⟨rfl, rfl⟩ := h0
    simp only [Option.bind_some] at h ⊢
    rw [if_neg hn]
    cases hy : spanP x.1 x.2 with
    | none => rw [hy] at h; exact h
    | some y => rw [hy] at h; obtain ⟨rfl, rfl⟩ := h; rw [hb rfl]; exact ⟨rfl, rfl⟩
  ·simp only [cntP, if_true, rdP] at h0 h ⊢
   cases hx : uvarP s with
   | none => rw [hx] at h; exact h
   | some x =>
    rw [hx] at h h0
    obtain ⟨rfl, rfl⟩ := h0
    simp only [Option.map_some, Option.bind_some] at h ⊢
    rw [if_neg hn]
    cases hy : spanP ((x.1 : Int) - 1) x.2 with
    | none => rw [hy] at h; exact h
    | some y => rw [hy] at h; obtain ⟨rfl, rfl⟩ := h; rw [hb rfl]; exact ⟨rfl, rfl⟩
theorem srcv_sl {w : World} {sb lo : Nat} {v : Value} {s : List UInt8} (h : SrcV w sb v s) (hs : sb < w.heap.size) : ∃ b : Bool, Rep (Dk sb lo w) w (.sl b (s.map byteD)) [v] ∧ (v ≠ .slice none 0 0 → b = false) := by
 rcases h with ⟨rfl, rfl⟩ | ⟨o, c, rfl, hle, hcs, _⟩
 ·exact ⟨true, ⟨none, 0, rfl, Nat.le_refl _, fun _ => ⟨rfl, rfl, rfl⟩, fun h => by cases h⟩, fun h => absurd rfl h⟩
 ·refine ⟨false, ?_, fun _ => rfl⟩
  simp only [Rep, List.length_map]
  exact ⟨_, c, rfl, hle, fun h => (by cases h), fun _ => ⟨sb, o, bv s, rfl, ⟨.inl rfl, hs⟩, hcs, (reps_bytes s _).2 rfl⟩⟩
theorem cnt_nz {c : Bool} {w : World} {rb sb : Nat} {st st1 st2 : Option (List UInt8)} {m : Int} {s1 : List UInt8} (hr : Rdr w rb sb st) (h : CntRel c .i32 4 st m st1) (h2 : SpanRel m st1 s1 st2) (hs : st2.isSome = true) : sb ≠ 0 := by
 cases st with
 | none =>
  simp only [CntRel] at h
  subst h
  simp only [SpanRel] at h2
  rw [h2] at hs; cases hs
 | some s =>
  refine hr.nz (fun e => ?_)
  subst e
  have hn : cntP c .i32 4 [] = none := by cases c <;> simp [cntP, intP, takeN, uvarP, uvarR]
  simp only [CntRel, hn] at h
  subst h
  simp only [SpanRel] at h2
  rw [h2] at hs; cases hs
theorem rd_NullableBytes : RdC Tryz.prog 137 .nbytes := by
 intro w rb sb lo st hr h1 h2 h3 h4
 refine enter Tryz.func137 rfl Tryz.ntmps137 rfl ?_
 refine wc_seq (wc_region (wl_assign rfl rfl (wl_nil (qk_thn ?_))))
 refine wc_seq (wc_region ?_)
 refine ws rfl rfl ?_
 refine wl_call rfl (by kernel_rfl) rfl ((int_of_rd rd_Int32 .i32 4 (fun s => rfl) rfl w rb sb lo st hr h1 h2 h3 h4).mono ?_)
 rintro en w1 ⟨m, st1, rfl, hwr, hc1, hr1, hrel⟩
 refine ⟨_, rfl, ?_⟩
 refine ws rfl rfl ?_
 refine wl_nil (qk_thn ?_)
 have hs1 := hc1.size
 have hcnt : CntRel false .i32 4 st m st1 := cnt_i hrel
 have hrange : IntKind.i64.wrap m = m := by rw [IntKind.wrap_i32] at hwr; rw [IntKind.wrap_i64]; omega
 refine wc_seq (wc_seq (wc_region ?_))
 refine ws rfl rfl ?_
 refine ws rfl rfl ?_
 refine wl_nil (qk_thn ?_)
 refine wc_cond rfl (fun hc => ?_) (fun hc => ?_)
 ·refine wc_seq (wc_region ?_)
  refine ws rfl rfl ?_
  refine wl_nil (qk_thn (wc_ret (qk_thn_ret (qk_ret1 rfl rfl ?_))))
  have hneg : m < 0 := by simpa using hc
  exact ⟨_, [.sl true []], st1, rfl, hc1, hr1, ⟨[_], [], rfl, ⟨none, 0, rfl, Nat.le_refl _, fun _ => ⟨rfl, rfl, rfl⟩, fun h => by cases h⟩, rfl⟩, rfl, fun _ => rfl, nby_nul (c := false) hcnt hneg⟩
 refine wc_skip (qk_thn ?_)
 have hnn : ¬ m < 0 := by simpa using hc
 refine wc_seq (wc_region ?_)
 refine ws rfl rfl ?_
 refine ws rfl rfl ?_
 refine wl_conv .i64 rfl (by kernel_rfl) (by kernel_rfl) rfl hrange ?_
 refine wl_call rfl (by kernel_rfl) rfl ((fn_spanN w1 rb sb st1 (m) hr1 h4).mono ?_)
 rintro en w2 ⟨v, s1, st2, rfl, hc2, hr2, hsv, hlim, hspan, hnil⟩
 refine ⟨_, rfl, ?_⟩
 have hs2 := hc2.size
 repeat first|((with_reducible apply ws);exact rfl;exact rfl)|(with_reducible first|apply wl_nil|apply qk_thn|apply wc_seq|apply wc_region|apply wc_ret)
 refine qk_ret1 rfl rfl ?_
 obtain ⟨b, hrep, hbf⟩ := srcv_sl (lo := lo) hsv (by omega)
 obtain ⟨a', n', c', rfl⟩ : ∃ a' n' c', v = .slice a' n' c' := by rcases hsv with ⟨rfl, _⟩ | ⟨o, c, rfl, _⟩ <;> exact ⟨_, _, _, rfl⟩
 exact ⟨_, [.sl b (s1.map byteD)], st2, rfl, hc1.trans hc2, hr2, ⟨[_], [], rfl, hrep, rfl⟩, rfl, fun _ => rfl, nby_rel (c := false) hcnt hnn (span_rel hcnt hspan) (fun h => hbf (hnil h (cnt_nz hr hcnt hspan h)))⟩
theorem rd_CompactNullableBytes : RdC Tryz.prog 136 .cnbytes := by
 intro w rb sb lo st hr h1 h2 h3 h4
 refine enter Tryz.func136 rfl Tryz.ntmps136 rfl ?_
 refine wc_seq (wc_region (wl_assign rfl rfl (wl_nil (qk_thn ?_))))
 refine wc_seq (wc_region ?_)
 refine ws rfl rfl ?_
 refine wl_call rfl (by kernel_rfl) rfl ((fn_ruv w rb sb st hr h4).mono ?_)
 rintro en w1 ⟨u, st1, rfl, hc1, hr1, hrel⟩
 refine ⟨_, rfl, ?_⟩
 have hul := hrel.1
 refine wl_conv .i64 (r := (u : Int)) rfl (by kernel_rfl) (by kernel_rfl) rfl (by rw [IntKind.wrap_i64]; omega) ?_
 refine wl_sub' (r := (u : Int) - 1) rfl rfl rfl (by rw [IntKind.wrap_i64]; omega) ?_
 refine ws rfl rfl ?_
 refine wl_nil (qk_thn ?_)
 have hs1 := hc1.size
 have hcnt : CntRel true .i32 4 st ((u : Int) - 1) st1 := cnt_u hrel
 refine wc_seq (wc_seq (wc_region ?_))
 refine ws rfl rfl ?_
 refine ws rfl rfl ?_
 refine wl_nil (qk_thn ?_)
 refine wc_cond rfl (fun hc => ?_) (fun hc => ?_)
 ·refine wc_seq (wc_region ?_)
  refine ws rfl rfl ?_
  refine wl_nil (qk_thn (wc_ret (qk_thn_ret (qk_ret1 rfl rfl ?_))))
  have hneg : (u : Int) - 1 < 0 := by simpa using hc
  exact ⟨_, [.sl true []], st1, rfl, hc1, hr1, ⟨[_], [], rfl, ⟨none, 0, rfl, Nat.le_refl _, fun _ => ⟨rfl, rfl, rfl⟩, fun h => by cases h⟩, rfl⟩, rfl, fun _ => rfl, nby_nul (c := true) hcnt hneg⟩
 refine wc_skip (qk_thn ?_)
 have hnn : ¬ (u : Int) - 1 < 0 := by simpa using hc
 refine wc_seq (wc_region ?_)
 refine ws rfl rfl ?_
 refine ws rfl rfl ?_
 refine wl_call rfl (by kernel_rfl) rfl ((fn_spanN w1 rb sb st1 ((u : Int) - 1) hr1 h4).mono ?_)
 rintro en w2 ⟨v, s1, st2, rfl, hc2, hr2, hsv, hlim, hspan, hnil⟩
 refine ⟨_, rfl, ?_⟩
 have hs2 := hc2.size
 repeat first|((with_reducible apply ws);exact rfl;exact rfl)|(with_reducible first|apply wl_nil|apply qk_thn|apply wc_seq|apply wc_region|apply wc_ret)
 refine qk_ret1 rfl rfl ?_
 obtain ⟨b, hrep, hbf⟩ := srcv_sl (lo := lo) hsv (by omega)
 obtain ⟨a', n', c', rfl⟩ : ∃ a' n' c', v = .slice a' n' c' := by rcases hsv with ⟨rfl, _⟩ | ⟨o, c, rfl, _⟩ <;> exact ⟨_, _, _, rfl⟩
 exact ⟨_, [.sl b (s1.map byteD)], st2, rfl, hc1.trans hc2, hr2, ⟨[_], [], rfl, hrep, rfl⟩, rfl, fun _ => rfl, nby_rel (c := true) hcnt hnn (span_rel hcnt hspan) (fun h => hbf (hnil h (cnt_nz hr hcnt hspan h)))⟩
end Go.Proofs.YtlmnaffhadeolaaGreatDoor.Rdk

namespace Go.Proofs.YtlmnaffhadeolaaGreatDoor.Rdk
open Go Go.RowKit
set_option maxRecDepth 100000
section
variable {P : Program} {ops : Array Oper} {Q : Exit → Act → World → Prop} {N : Nat} {rest : List Oper} {L : Sl} {w : World} {d : Nat} {ty : TypeId} {pos : String} {aft : Array Edge}
theorem wl_mapNil {x : Operand} {t u : TypeId} {m : Option Nat} (hx : ev L x = some (.map m)) (ht : (match P.underlying t with | some (.map _ _) => true | _ => false) = true) (hd : Nat.blt d N = true) (h : WL rest P ops Q N ((d, .bool m.isNone) :: L) w) :
  WL (⟨some d, .binOp .eql t x (.const (.map none)) u, ty, pos, aft, none⟩ :: rest) P ops Q N L w := by
 intro a k
 split at ht
 ·rename_i kt et hu
  refine st_of (o := ⟨some d, .binOp .eql t x (.const (.map none)) u, ty, pos, aft, none⟩) (v := .bool m.isNone) (w' := w) rfl ?_ (h _ (k.put _ hd))
  simp only [execOp, k.eval hx, eval_const]
  have h : ∀ d : Nat, (Op.equalIn (d + 1) t (.map m) (.map none)).run P w = .ok m.isNone w := fun d => by
   cases m <;> simp [Op.equalIn, run_underlying hu]
  simp only [eqGuard, binOp]
  simp [Op.equal, Op.maxDepth, h 9999]
 ·cases ht
theorem wl_makeMap {t : TypeId} (hd : Nat.blt d N = true) (h : WL rest P ops Q N ((d, .map (some w.heap.size)) :: L) (w.alloc (.map #[] 0))) : WL (⟨some d, .makeMap t none, ty, pos, aft, none⟩ :: rest) P ops Q N L w := by
 intro a k
 refine st_of (o := ⟨some d, .makeMap t none, ty, pos, aft, none⟩) (v := .map (some w.heap.size)) rfl ?_ (h _ (k.put _ hd))
 simp [execOp, run_makeMap]
theorem wl_mapUpd {x y z : Operand} {t : TypeId} {m kk v : Value} {w' : World} (hx : ev L x = some m) (hy : ev L y = some kk) (hz : ev L z = some v) (hr : (Instr.mapUpdate t m kk v).run P w = .ok () w') (h : WL rest P ops Q N L w') :
  WL (⟨none, .mapUpdate t x y z, ty, pos, aft, none⟩ :: rest) P ops Q N L w := by
 intro a k
 refine st_of_skip (o := ⟨none, .mapUpdate t x y z, ty, pos, aft, none⟩) (w' := w') rfl ?_ (h _ k)
 simp [execOp, k.eval hx, k.eval hy, k.eval hz, hr]
end
def tblT : Tbl := ⟨[(63, 0, 0)], []⟩
theorem tblT_ok : tblT.ok Tryz.prog = true := by kernel_rfl
theorem wt {ops : Array Oper} {Q : Exit → Act → World → Prop} {N : Nat} {rest : List Oper} {L : Sl} {w : World} {d : Nat} {ty : TypeId} {pos : String} {aft : Array Edge} {o : Op} {v : Value}
  (hs : stepOp tblT L o = some v) (hd : Nat.blt d N = true) (h : WL rest Tryz.prog ops Q N ((d, v) :: L) w) : WL (⟨some d, o, ty, pos, aft, none⟩ :: rest) Tryz.prog ops Q N L w := wl_step tblT tblT_ok hs hd h
theorem um : Tryz.prog.underlying 61 = some (.map 77 22) := by kernel_rfl
theorem uk : Tryz.prog.underlying 77 = some (.int .u32) := by kernel_rfl
theorem to_map : tyOne Tryz.prog 61 = true := by kernel_rfl
theorem zv_tags (w : World) : (zeroValue 63).run Tryz.prog w = .ok (.agg #[.map none]) w := by kernel_rfl
theorem ta_tags : tyAgg Tryz.prog 63 = some 1 := by kernel_rfl
theorem tz_tags : (Tryz.prog.info? 63).map (·.size) = some 1 := by kernel_rfl
def TagsAt (w : World) (sb lo : Nat) (m : Value) (u : List (Nat × List UInt8)) : Prop := (m = .map none ∧ u = []) ∨ ∃ r, m = .map (some r) ∧ lo ≤ r ∧ TagMap w sb r u
theorem TagsAt.keep {w w' : World} {S : Nat → Prop} {sb lo : Nat} {m : Value} {u : List (Nat × List UInt8)} (h : TagsAt w sb lo m u) (hc : Chg S w w') (hr : ∀ r, lo ≤ r → r < w.heap.size → ¬ S r) (hs : ¬ S sb) (hsb : sb < w.heap.size) : TagsAt w' sb lo m u := by
 rcases h with h | ⟨r, rfl, hlo, ht⟩
 ·exact .inl h
 ·have hlt : r < w.heap.size := by
   obtain ⟨⟨es, clock, hb, _⟩, _⟩ := ht
   exact (Array.getElem?_eq_some_iff.1 hb).1
  exact .inr ⟨r, rfl, hlo, ht.keep hc (hr r hlo hlt) hs hsb⟩
theorem fn_set (w : World) (tb sb lo key : Nat) (val m : Value) (u : List (Nat × List UInt8)) (e : TypeId) (s : List UInt8) (hb : Box w tb [m] e) (ht : TagsAt w sb lo m u) (hv : SrcV w sb val s) (h1 : tb < lo) (h2 : sb < lo) (h3 : lo ≤ w.heap.size) (h4 : tb ≠ sb) :
  Calls Tryz.prog 117 #[.pointer (some ⟨tb, 0, none⟩), .int .u32 key, val] w fun en w' => en = .returned (.tuple #[]) ∧ ∃ m', Box w' tb [m'] e ∧ TagsAt w' sb lo m' (setTag key s u) ∧ Chg (fun j => j = tb ∨ lo ≤ j) w w' := by
 refine enter Tryz.func117 rfl Tryz.ntmps117 rfl ?_
 have upd : ∀ (w1 : World) (r : Nat) (u1 : List (Nat × List UInt8)), Box w1 tb [.map (some r)] e → lo ≤ r → TagMap w1 sb r u1 → SrcV w1 sb val s → sb < w1.heap.size → Chg (fun j => j = tb ∨ lo ≤ j) w w1 → setTag key s u1 = setTag key s u →
   ∃ w', (Instr.mapUpdate 61 (.map (some r)) (.int .u32 key) val).run Tryz.prog w1 = .ok () w' ∧ (∃ m', Box w' tb [m'] e ∧ TagsAt w' sb lo m' (setTag key s u) ∧ Chg (fun j => j = tb ∨ lo ≤ j) w w') := by
  intro w1 r u1 hb1 hr htm hv1 hsb hc heq
  obtain ⟨w', hrun, hc', _, ht'⟩ := run_tagSet um uk htm (by omega) hsb key hv1
  exact ⟨w', hrun, _, hb1.chg hc' (by show tb ≠ r; omega), .inr ⟨r, rfl, hr, by rw [← heq]; exact ht'⟩, hc.trans (hc'.wide (fun j hj => .inr (by have : j = r := hj; omega)))⟩
 rcases ht with ⟨rfl, rfl⟩ | ⟨r, rfl, hr, htm⟩
 ·refine wc_seq (wc_seq (wc_region ?_))
  refine wt rfl rfl ?_
  refine wt rfl rfl ?_
  refine wt rfl rfl ?_
  refine wl_loadB rfl to_map rfl hb rfl ?_
  refine wl_mapNil rfl (by kernel_rfl) rfl ?_
  refine wl_nil (qk_thn (wc_yes rfl rfl (wc_region ?_)))
  refine wt rfl rfl ?_
  refine wl_makeMap rfl ?_
  have hal : Chg (fun _ => False) w (w.alloc (.map #[] 0)) := chg_alloc w _ _
  have hnew := tagMap_new w sb
  have hb1 := hb.chg hal id
  have hs1 : (w.alloc (.map #[] 0)).heap.size = w.heap.size + 1 := by simp
  have hv1 := hv.chg hal id
  generalize w.alloc (.map #[] 0) = w1 at *
  refine wt rfl rfl ?_
  refine wt rfl rfl ?_
  refine wl_storeB rfl rfl to_map rfl hb1 rfl (fun w2 hb2 hg2 hs2 => ?_)
  have hc2 := Chg.grown hg2
  have hne : ∀ j : Nat, (fun j => j = tb) j → j ≠ w.heap.size := fun j hj => by have : j = tb := hj; omega
  obtain ⟨w3, hrun, m', hb3, ht3, hc3⟩ := upd w2 w.heap.size [] hb2 h3 (hnew.keep hc2 (fun e => by have : w.heap.size = tb := e; omega) (fun e => h4 e.symm) (by omega)) (hv1.chg hc2 (fun e => h4 e.symm)) (by omega) ((hal.wide (fun _ h => h.elim)).trans (hc2.wide (fun j hj => .inl hj))) rfl
  refine wl_nil (qk_thn (wc_region ?_))
  refine wt rfl rfl ?_
  refine wt rfl rfl ?_
  refine wt rfl rfl ?_
  refine wl_loadB rfl to_map rfl hb2 rfl ?_
  refine wt rfl rfl ?_
  refine wt rfl rfl ?_
  refine wl_mapUpd rfl rfl rfl hrun ?_
  exact wl_nil (qk_end0 rfl ⟨rfl, m', hb3, ht3, hc3⟩)
 ·obtain ⟨w3, hrun, m', hb3, ht3, hc3⟩ := upd w r u hb hr htm hv (by omega) (Chg.refl _ _) rfl
  refine wc_seq (wc_seq (wc_region ?_))
  refine wt rfl rfl ?_
  refine wt rfl rfl ?_
  refine wt rfl rfl ?_
  refine wl_loadB rfl to_map rfl hb rfl ?_
  refine wl_mapNil rfl (by kernel_rfl) rfl ?_
  refine wl_nil (qk_thn (wc_no rfl rfl (wc_skip (qk_thn (wc_region ?_)))))
  refine wt rfl rfl ?_
  refine wt rfl rfl ?_
  refine wt rfl rfl ?_
  refine wl_loadB rfl to_map rfl hb rfl ?_
  refine wt rfl rfl ?_
  refine wt rfl rfl ?_
  refine wl_mapUpd rfl rfl rfl hrun ?_
  exact wl_nil (qk_end0 rfl ⟨rfl, m', hb3, ht3, hc3⟩)
end Go.Proofs.YtlmnaffhadeolaaGreatDoor.Rdk

namespace Go.Proofs.YtlmnaffhadeolaaGreatDoor.Rdk
open Go Go.RowKit
set_option maxRecDepth 100000
def TInv (st : Option (List UInt8)) (j : Nat) (u : List (Nat × List UInt8)) (st' : Option (List UInt8)) : Prop := match st with
 | none => st' = none
 | some s => match st' with
  | some s' => tagsP s = tagsR j u s'
  | none => tagsP s = none
theorem tinv_start {st st1 : Option (List UInt8)} {n : Nat} (h : UvRel st n st1) : TInv st n [] st1 := by
 have h2 := h.2
 cases st with
 | none => exact h2
 | some s =>
  simp only [TInv, tagsP] at h2 ⊢
  cases hx : uvarP s with
  | none => rw [hx] at h2; simp only [] at h2; subst h2; rfl
  | some x => rw [hx] at h2; obtain ⟨rfl, rfl⟩ := h2; rfl
theorem tinv_step {st s1 s2 s3 s4 : Option (List UInt8)} {j k l : Nat} {u : List (Nat × List UInt8)} {bs : List UInt8} (h : TInv st (j + 1) u s1) (h1 : UvRel s1 k s2) (h2 : UvRel s2 l s3) (h3 : SpanRel l s3 bs s4) : TInv st j (setTag k bs u) s4 := by
 have e1 := h1.2
 have e2 := h2.2
 cases st with
 | none =>
  simp only [TInv] at h ⊢
  subst h
  simp only [] at e1
  subst e1
  simp only [] at e2
  subst e2
  exact h3
 | some s =>
  cases s1 with
  | none =>
   simp only [TInv] at h
   simp only [] at e1
   subst e1
   simp only [] at e2
   subst e2
   have h4 : s4 = none := h3
   subst h4
   exact h
  | some t1 =>
   simp only [TInv, tagsR] at h
   simp only [] at e1
   cases hx : uvarP t1 with
   | none =>
    rw [hx] at h e1
    simp only [] at e1
    subst e1
    simp only [] at e2
    subst e2
    have h4 : s4 = none := h3
    subst h4
    exact h
   | some x =>
    rw [hx] at h e1
    obtain ⟨rfl, rfl⟩ := e1
    simp only [Option.bind_some] at h e2
    cases hy : uvarP x.2 with
    | none =>
     rw [hy] at h e2
     simp only [] at e2
     subst e2
     have h4 : s4 = none := h3
     subst h4
     exact h
    | some y =>
     rw [hy] at h e2
     obtain ⟨rfl, rfl⟩ := e2
     simp only [Option.bind_some] at h
     simp only [SpanRel, spanP] at h3
     rw [if_neg (by omega), Int.toNat_natCast] at h3
     cases hz : takeN y.1 y.2 with
     | none => rw [hz] at h h3; simp only [] at h3; subst h3; exact h
     | some z => rw [hz] at h h3; obtain ⟨rfl, rfl⟩ := h3; exact h
theorem tinv_end {st st' : Option (List UInt8)} {u : List (Nat × List UInt8)} (h : TInv st 0 u st') : TagRel st u st' := by
 unfold TagRel
 cases st with
 | none => exact h
 | some s =>
  cases st' with
  | none => simp only [TInv] at h; simp only [h]
  | some s' => simp only [TInv, tagsR] at h; simp only [h, and_self]
theorem chg_cut {w w' : World} {rb : Nat} (h : Chg (fun j => j = rb ∨ w.heap.size ≤ j) w w') : Chg (· = rb) w w' := ⟨h.os, h.tape, h.output, h.size, fun k hk hn => h.block k hk (by rintro (e | e); exact hn e; omega)⟩
theorem fn_tags (w : World) (rb sb lo : Nat) (st : Option (List UInt8)) (hr : Rdr w rb sb st) (h1 : rb < lo) (h2 : sb < lo) (h3 : lo ≤ w.heap.size) (h4 : rb ≠ sb) :
  Calls Tryz.prog 115 #[.pointer (some ⟨rb, 0, none⟩)] w fun e w' => ∃ m u st', e = .returned (.agg #[m]) ∧ Chg (· = rb) w w' ∧ Rdr w' rb sb st' ∧ m.oneCell' = true ∧ Rep (Dk sb lo w') w' (tagsK u) [m] ∧ TagRel st u st' := by
 refine enter Tryz.func115 rfl Tryz.ntmps115 rfl ?_
 refine wc_seq (wc_region (wl_alloc zv_tags rfl rfl (fun w1 hb1 hg1 hs1 => wl_nil (qk_thn ?_))))
 refine wc_seq (wc_region (wl_alloc zv_tags rfl rfl (fun w2 hb2 hg2 hs2 => wl_nil (qk_thn ?_))))
 have c1 : Chg (fun _ => False) w w1 := Chg.grown0 hg1
 have c2 : Chg (fun _ => False) w1 w2 := Chg.grown0 hg2
 have hb1' := hb1.chg c2 id
 have hr2 := (hr.chg c1 id id).chg c2 id id
 obtain ⟨B, hB⟩ : ∃ B, B = w.heap.size := ⟨_, rfl⟩
 rw [← hB] at hs1 hb1' h3
 rw [hs1] at hb2
 rw [hs1] at hs2
 refine wc_seq (wc_seq (wc_region ?_))
 refine wt rfl rfl ?_
 refine wl_call rfl (by kernel_rfl) rfl ((fn_ruv w2 rb sb st hr2 h4).mono ?_)
 rintro en w3 ⟨n, st1, rfl, hc3, hr3, hrel⟩
 refine ⟨_, rfl, ?_⟩
 refine wt rfl rfl ?_
 refine wl_nil (qk_thn ?_)
 have hrb1 : ¬ (fun j => j = rb) B := fun e => by have : B = rb := e; omega
 have hrb2 : ¬ (fun j => j = rb) (B + 1) := fun e => by have : B + 1 = rb := e; omega
 have hs3 := hc3.size
 have c03 : Chg (fun j => j = rb ∨ B ≤ j) w w3 := ((c1.trans c2).wide (fun _ h => h.elim)).trans (hc3.wide (fun j hj => .inl hj))
 refine wc_block (wc_loop (α := Nat) (fun j => [(0, .pointer (some ⟨rb, 0, none⟩)), (2, .pointer (some ⟨B, 0, none⟩)), (3, .pointer (some ⟨B + 1, 0, none⟩)), (4, .int .u32 (j : Int))])
  (fun j w' => ∃ st' u m, j < 4294967296 ∧ Chg (fun j => j = rb ∨ B ≤ j) w w' ∧ Rdr w' rb sb st' ∧ Box w' B [.map none] 63 ∧ Box w' (B + 1) [m] 63 ∧ TagsAt w' sb (B + 2) m u ∧ TInv st j u st') (fun j => j) n
  ⟨rfl, by subst hB; rfl, by rw [← hs1]; rfl, rfl, trivial⟩ ⟨st1, [], .map none, hrel.1, c03, hr3, hb1'.chg hc3 hrb1, hb2.chg hc3 hrb2, .inl ⟨rfl, rfl⟩, tinv_start hrel⟩ ?_)
 rintro j w4 ⟨s1, u, m, hj, hc4, hr4, hbA, hbB, htm, hinv⟩
 have hs4 := hc4.size
 have nrb : ∀ r, B + 2 ≤ r → r < w4.heap.size → ¬ (fun j => j = rb) r := fun r h _ e => by have : r = rb := e; omega
 cases j with
 | zero =>
  refine wc_seq (wc_seq (wc_region ?_))
  refine wt rfl rfl ?_
  refine wt rfl rfl ?_
  refine wl_nil (qk_thn (wc_no rfl (by simp) (wc_exit (qk_thn_exit (qk_round_exit (qk_in_exit (qk_thn ?_)))))))
  refine wc_seq (wc_region ?_)
  refine wl_loadBAgg (cs := [m]) rfl ta_tags rfl hbB ?_
  refine wl_storeBAgg (vs := [m]) rfl rfl rfl tz_tags (by
   rcases htm with ⟨rfl, _⟩ | ⟨r, rfl, _⟩ <;> rfl) hbA rfl (fun w5 hb5 hg5 hs5 => ?_)
  refine wl_nil (qk_thn (wc_ret (qk_retCell (cs := [m]) rfl rfl ta_tags hb5 ?_)))
  have hc5 : Chg (· = B) w4 w5 := Chg.grown hg5
  have n5 : ∀ x : Nat, x < B ∨ B < x → ¬ (fun j => j = B) x := fun x h e => by have : x = B := e; omega
  have htm5 := htm.keep hc5 (fun r h _ => n5 r (by omega)) (n5 sb (by omega)) (by omega)
  refine ⟨m, u, s1, rfl, chg_cut (by rw [← hB]; exact hc4.trans (hc5.wide (fun j hj => .inr (by have : j = B := hj; omega)))), hr4.chg hc5 (n5 rb (by omega)) (n5 sb (by omega)), ?_, ?_, tinv_end hinv⟩
  ·rcases htm with ⟨rfl, _⟩ | ⟨r, rfl, _⟩ <;> rfl
  ·rcases htm5 with ⟨rfl, rfl⟩ | ⟨r, rfl, hlo, ht⟩
   ·exact .inl ⟨rfl, rfl⟩
   ·exact ht.rep (by omega) (by have := hc5.size; omega)
 | succ j =>
  refine wc_seq (wc_seq (wc_region ?_))
  refine wt rfl rfl ?_
  refine wt rfl rfl ?_
  refine wl_nil (qk_thn (wc_yes rfl (by simp) (wc_skip (qk_thn ?_))))
  refine wc_seq (wc_block (wc_seq (wc_region ?_)))
  refine wt rfl rfl ?_
  refine wl_call rfl (by kernel_rfl) rfl ((fn_ruv w4 rb sb s1 hr4 h4).mono ?_)
  rintro en w5 ⟨key, s2, rfl, hc5, hr5, hrel5⟩
  refine ⟨_, rfl, ?_⟩
  refine wt rfl rfl ?_
  refine wl_call rfl (by kernel_rfl) rfl ((fn_ruv w5 rb sb s2 hr5 h4).mono ?_)
  rintro en w6 ⟨len, s3, rfl, hc6, hr6, hrel6⟩
  refine ⟨_, rfl, ?_⟩
  refine wt rfl rfl ?_
  refine wt rfl rfl ?_
  refine wl_nil (qk_thn (wc_region ?_))
  refine wt rfl rfl ?_
  refine wt rfl rfl ?_
  refine wt rfl rfl ?_
  have hlen := hrel6.1
  refine wl_conv .i64 (r := (len : Int)) rfl (by kernel_rfl) (by kernel_rfl) rfl (by rw [IntKind.wrap_i64]; omega) ?_
  refine wl_call rfl (by kernel_rfl) rfl ((fn_span w6 rb sb s3 (len : Int) hr6 h4).mono ?_)
  rintro en w7 ⟨v, bs, s4, rfl, hc7, hr7, hsv, _, hspan⟩
  refine ⟨_, rfl, ?_⟩
  have c47 : Chg (· = rb) w4 w7 := hc5.trans (hc6.trans hc7)
  have hs7 := c47.size
  have nB : ∀ x : Nat, B ≤ x → ¬ (fun j => j = rb) x := fun x h e => by have : x = rb := e; omega
  have hb7 := hbB.chg c47 (nB _ (by omega))
  have ht7 := htm.keep c47 nrb (fun e => h4 e.symm) (by omega)
  have hlt : B + 1 < w7.heap.size := hb7.lt
  refine wl_call rfl (by kernel_rfl) rfl ((fn_set w7 (B + 1) sb (B + 2) key v m u _ bs hb7 ht7 hsv (by omega) (by omega) (by omega) (by omega)).mono ?_)
  rintro en w8 ⟨rfl, m', hb8, ht8, hc8⟩
  refine ⟨_, rfl, ?_⟩
  refine wl_nil (qk_in (qk_thn (wc_region ?_)))
  refine wt rfl rfl ?_
  refine wl_sub' (r := (j : Int)) rfl rfl rfl (by rw [IntKind.wrap_u32]; omega) ?_
  refine wt rfl rfl ?_
  have n8 : ∀ x : Nat, x < B + 1 → ¬ (fun j => j = B + 1 ∨ B + 2 ≤ j) x := fun x h e => by have : x = B + 1 ∨ B + 2 ≤ x := e; omega
  refine wl_nil (qk_round j ⟨rfl, rfl, rfl, rfl, trivial⟩ ⟨s4, setTag key bs u, m', by omega, ?_, hr7.chg hc8 (n8 rb (by omega)) (n8 sb (by omega)), (hbA.chg c47 (nB B (by omega))).chg hc8 (n8 B (by omega)), hb8, ht8, tinv_step hinv hrel5 hrel6 hspan⟩ (by omega))
  exact hc4.trans ((c47.wide (fun j hj => .inl hj)).trans (hc8.wide (fun j hj => .inr (by have : j = B + 1 ∨ B + 2 ≤ j := hj; omega))))
end Go.Proofs.YtlmnaffhadeolaaGreatDoor.Rdk

namespace Go.Proofs.YtlmnaffhadeolaaGreatDoor
open Go Go.RowKit
def arrOf (P : Program) (t n : Nat) : Bool := match P.underlying t with
 | some (.array m e) => Nat.beq m n && (P.info? e).isSome
 | _ => false
section
variable {P : Program} {ops : Array Oper} {Q : Exit → Act → World → Prop} {N : Nat} {rest : List Oper} {L : Sl} {w : World} {ty : TypeId} {pos : String} {aft : Array Edge}
theorem rn_arrSl {a : Act} {d : Option Nat} {g : Option (Nat × Bool)} {x : Operand} {t n b : Nat} (k : Kn N a L) (hx : ev L x = some (.pointer (some ⟨b, 0, none⟩))) (ht : arrOf P t n = true) :
  (execOp a.eval ⟨d, .slice t x none none none, ty, pos, aft, g⟩).run P w = .ok (.value (.slice (some ⟨b, 0, none⟩) n n)) w := by
 unfold arrOf at ht
 split at ht
 ·rename_i m e he
  simp only [Bool.and_eq_true] at ht
  obtain ⟨h1, h2⟩ := ht
  have := Nat.eq_of_beq_eq_true h1; subst this
  cases hie : P.info? e with
  | none => simp [hie] at h2
  | some inf =>
   simp only [execOp, k.eval hx, Option.map_none]
   simp [Instr.sliceAt, Instr.sureAddr, run_underlying he, Instr.sliceBounds, sizeOf, typeInfo, hie, Addr.add]
 ·cases ht
theorem wl_arrSl {d : Nat} {x : Operand} {t n b : Nat} (hx : ev L x = some (.pointer (some ⟨b, 0, none⟩))) (ht : arrOf P t n = true) (hd : Nat.blt d N = true) (h : WL rest P ops Q N ((d, .slice (some ⟨b, 0, none⟩) n n) :: L) w) :
  WL (⟨some d, .slice t x none none none, ty, pos, aft, none⟩ :: rest) P ops Q N L w := by
 intro a k
 exact st_of (o := ⟨some d, .slice t x none none none, ty, pos, aft, none⟩) (v := .slice (some ⟨b, 0, none⟩) n n) rfl (rn_arrSl k hx ht) (h _ (k.put _ hd))
theorem does_copyBox {a : Act} {d : Option Nat} {gd : Option (Nat × Bool)} {x y : Operand} {t u u8 n g c e : Nat} {sv : Value} {xs ys : List UInt8} {R : Value → World → Prop} (k : Kn N a L) (hT : byteSl P t u8 = true) (hx : ev L x = some (.slice (some ⟨g, 0, none⟩) n c)) (hy : ev L y = some sv)
  (hB : Box w g (bv xs) e) (hlen : xs.length = n) (hsv : BytesAt w sv ys)
  (h : ∀ w', Box w' g (bv (ys.take n ++ xs.drop (min ys.length n))) e → w.grownBy w' (some g) → R (.int .i64 ((min ys.length n : Nat) : Int)) w') : Does P ⟨d, .call ⟨.builtin .copy, #[x, y], #[t, u]⟩, ty, pos, aft, gd⟩ a w R := by
 obtain ⟨hu, i, z, hi, hs1, hb1, hz', hzc⟩ := byteSl_out hT
 have hsz : (P.info? u8).map (·.size) = some 1 := by rw [hi]; simp [hs1]
 subst hlen
 rcases hsv with ⟨a0, c0, rfl, rfl⟩ | ⟨b, off, c0, rfl, hc⟩
 ·have hrun := run_copy_none (P := P) w t u ty u8 (some ⟨g, 0, none⟩) a0 xs.length c 0 c0 hu hsz (by simp)
  refine does_of (v := .int .i64 ((min ([] : List UInt8).length xs.length : Nat) : Int)) (w' := w) ?_ (h w (by simpa using hB) ⟨rfl, rfl, rfl, Nat.le_refl _, fun _ _ _ => rfl⟩)
  simp only [execOp, resolve, List.map_toArray, List.map_cons, List.map_nil, k.eval hx, k.eval hy, Sem.run_bind, Sem.run_pure, Result.andThen_ok, invoke, builtin, hrun]
  simp [goInt]
 ·have hcl : (bv (ys.take xs.length)).length = Nat.min ys.length xs.length := by rw [bv_length, List.length_take, Nat.min_comm]
  have hm : Nat.min ys.length xs.length ≤ xs.length := Nat.min_le_right _ _
  have hrun := run_copy_row (P := P) w t u ty u8 g 0 xs.length c ⟨b, off, none⟩ ys.length c0 (bv xs).toArray e (bv (ys.take xs.length)) hu hsz hB hcl
   (fun j v hv => by
    rw [add_plain _ _ rfl]
    refine hc.cell (i := j) ?_
    simp only [bv, List.map_take] at hv
    rw [List.getElem?_take] at hv
    split at hv
    ·exact hv
    ·cases hv) (by rw [hcl]; simp only [List.size_toArray, bv_length]; omega) (bv_one _)
  refine does_of (v := .int .i64 ((min ys.length xs.length : Nat) : Int)) (w' := w.setRow g ((bv xs).toArray.toList.take 0 ++ bv (ys.take xs.length) ++ (bv xs).toArray.toList.drop (0 + (bv (ys.take xs.length)).length)).toArray) ?_ (h _ ?_ ?_)
  ·simp only [execOp, resolve, List.map_toArray, List.map_cons, List.map_nil, k.eval hx, k.eval hy, Sem.run_bind, Sem.run_pure, Result.andThen_ok, invoke, builtin, hrun]
   simp [goInt, hcl]
  ·have hbx := setRow_heap w g _ ((bv xs).toArray.toList.take 0 ++ bv (ys.take xs.length) ++ (bv xs).toArray.toList.drop (0 + (bv (ys.take xs.length)).length)).toArray e _ hB
   unfold Box
   rw [hbx]
   congr 2
   rw [hcl, bv_append]
   have : bv (xs.drop (min ys.length xs.length)) = (bv xs).drop (min ys.length xs.length) := by simp [bv]
   rw [this]
   simp only [List.take_zero, List.nil_append, Nat.zero_add]
  ·exact ⟨rfl, rfl, rfl, by simp, fun k' _ hk => setRow_other w g k' _ (fun e' => hk (by rw [e']))⟩
end
end Go.Proofs.YtlmnaffhadeolaaGreatDoor

namespace Go.Proofs.YtlmnaffhadeolaaGreatDoor.Rdk
open Go Go.RowKit
set_option maxRecDepth 100000
theorem uuid_spans {l : Int} {st st' : Option (List UInt8)} {s1 r : List UInt8} (hl : l = 16) (h : SpanRel l st s1 st') (hr : r = s1.take 16 ++ (List.replicate 16 (0 : UInt8)).drop (min s1.length 16)) : r.length = 16 ∧ RdRel .uuid st (r.map byteD) st' := by
 subst hl
 have hlen : r.length = 16 := by
  subst hr
  simp only [List.length_append, List.length_take, List.length_drop, List.length_replicate]
  omega
 refine ⟨hlen, by rw [shDs_bytes, hlen]; rfl, fun d hd => ?_, ?_⟩
 ·obtain ⟨c, _, rfl⟩ := List.mem_map.1 hd
  rfl
 ·unfold SpanRel at h
  cases st with
  | none => exact h
  | some s =>
   simp only [spanP, rdP] at h ⊢
   rw [if_neg (by omega)] at h
   simp only [show (16 : Int).toNat = 16 from rfl] at h
   unfold takeN at h ⊢
   by_cases h16 : 16 ≤ s.length
   ·rw [if_pos h16] at h ⊢
    obtain ⟨h1, h2⟩ := h
    simp only [] at h1 h2
    have e16 : (s.take 16).length = 16 := by rw [List.length_take]; omega
    have hr2 : r = s.take 16 := by
     rw [hr, h2, e16, List.take_of_length_le (by omega)]
     simp
    rw [hr2]
    exact ⟨h1, rfl⟩
   ·rw [if_neg h16] at h ⊢
    exact h
theorem srcv_bytes {w : World} {sb : Nat} {v : Value} {s : List UInt8} (h : SrcV w sb v s) : BytesAt w v s := by
 rcases h with ⟨rfl, rfl⟩ | ⟨o, c, rfl, _, h, _⟩
 ·exact .inl ⟨none, 0, rfl, rfl⟩
 ·exact .inr ⟨_, o, c, rfl, h⟩
theorem rd_Uuid : RdC Tryz.prog 134 .uuid := by
 intro w rb sb lo st hr h1 h2 h3 h4
 have hz : ∀ w : World, (zeroValue 128).run Tryz.prog w = .ok (.agg (bv (List.replicate 16 0)).toArray) w := fun w => by kernel_rfl
 refine enter Tryz.func134 rfl Tryz.ntmps134 rfl ?_
 refine wc_seq (wc_region (wl_alloc (cs := bv (List.replicate 16 0)) hz rfl rfl (fun w1 hb1 g1 z1 => wl_nil (qk_thn ?_))))
 refine wc_seq (wc_region (wl_alloc (cs := bv (List.replicate 16 0)) hz rfl rfl (fun w2 hb2 g2 z2 => wl_nil (qk_thn ?_))))
 have c2 : Chg (fun _ => False) w w2 := (Chg.grown0 g1).trans (Chg.grown0 g2)
 have hb12 : Box w2 w.heap.size (bv (List.replicate 16 0)) 128 := hb1.kept g2 (by simp)
 refine wc_seq (wc_par [(0, .slice (some ⟨w1.heap.size, 0, none⟩) 16 16), (1, .pointer (some ⟨rb, 0, none⟩))] [3, 2] (fun vals w' => Chg (fun j => j = rb ∨ w.heap.size ≤ j) w w' ∧ Box w' w.heap.size (bv (List.replicate 16 0)) 128 ∧ match vals with
   | [] => Rdr w' rb sb st ∧ Box w' w1.heap.size (bv (List.replicate 16 0)) 128
   | [v] => ∃ s1 st', Rdr w' rb sb st' ∧ Box w' w1.heap.size (bv (List.replicate 16 0)) 128 ∧ SrcV w' sb v s1 ∧ SpanRel 16 st s1 st'
   | _ :: _ => ∃ s1 st', Rdr w' rb sb st' ∧ Box w' w1.heap.size (bv (s1.take 16 ++ (List.replicate 16 0).drop (min s1.length 16))) 128 ∧ SpanRel 16 st s1 st')
  mixed rfl rfl rfl rfl rfl (by show ([0,1] : List Nat).Nodup; decide) rfl rfl (by decide) rfl rfl rfl rfl
  ⟨(c2.trans (chg_drew w2 _)).wide (fun _ h => h.elim), hb12.chg (chg_drew w2 (fun _ => False)) id, (hr.chg (c2.trans (chg_drew w2 _)) id id), hb2.chg (chg_drew w2 (fun _ => False)) id⟩ ?_ ⟨?_, ?_, trivial⟩ ?_)
 ·intro p hp vals w' hC a' k
  simp only [List.mem_cons, List.not_mem_nil, or_false] at hp
  rcases hp with rfl | rfl
  ·exact gv rfl rfl (rn_arrSl k rfl (by kernel_rfl))
  ·exact gv rfl rfl (rn_move k rfl)
 ·rintro vals w' hvl ⟨hw', hb', hC⟩ a' k
  match vals, hvl with
  | [v2], _ =>
   obtain ⟨s1, st', hrd, hbx, hsv, hrel⟩ := hC
   refine ⟨_, rfl, does_copyBox k tb_bytes rfl rfl hbx (by simp) (srcv_bytes hsv) (fun w'' hb'' hg'' => ?_)⟩
   have hc := Chg.grown hg''
   exact ⟨hw'.trans (hc.wide (fun j hj => .inr (by omega))), hb'.chg hc (by omega), s1, st', hrd.chg hc (by omega) (by omega), hb'', hrel⟩
 ·rintro vals w' hvl ⟨hw', hb', hC⟩ a' k
  match vals, hvl with
  | [], _ =>
   refine ⟨_, rfl, does_call k rfl (by kernel_rfl) ((fn_span w' rb sb st 16 hC.1 h4).mono ?_)⟩
   rintro e w'' ⟨v, s1, st', rfl, hc, hrd, hsv, _, hrel⟩
   exact ⟨_, rfl, hw'.trans (hc.wide (fun j hj => .inl hj)), hb'.chg hc (by omega), s1, st', hrd, hC.2.chg hc (by omega), hsv, hrel⟩
 ·rintro vals w' hvl ⟨hw', hb', hC⟩
  match vals, hvl with
  | [v3, v2], _ =>
   obtain ⟨s1, st', hrd, hbx, hrel⟩ := hC
   obtain ⟨hlen, hrr⟩ := uuid_spans rfl hrel rfl
   generalize s1.take 16 ++ (List.replicate 16 (0 : UInt8)).drop (min s1.length 16) = r at hbx hlen hrr
   refine qk_thn (wc_seq (wc_region ?_))
   refine wl_loadBAgg rfl (by rw [bv_length, hlen]; kernel_rfl) rfl hbx ?_
   refine wl_storeBAgg (vs := bv r) rfl rfl rfl (by rw [bv_length, hlen]; kernel_rfl) (List.all_eq_true.2 (bv_one r)) hb' (by rw [bv_length, bv_length, hlen]; rfl) (fun w3 hb3 g3 z3 => ?_)
   have hc := Chg.grown g3
   refine wl_nil (qk_thn (wc_ret (qk_retCell rfl rfl (by rw [bv_length, hlen]; kernel_rfl) hb3 ?_)))
   refine ⟨_, _, st', rfl, chg_cut (hw'.trans (hc.wide (fun j hj => .inr (by omega)))), hrd.chg hc (by omega) (by omega), (reps_bytes r _).2 rfl, List.all_eq_true.2 (bv_one r), fun h => by simp [shR] at h, hrr⟩
end Go.Proofs.YtlmnaffhadeolaaGreatDoor.Rdk

namespace Go.Proofs.YtlmnaffhadeolaaGreatDoor.Rdk
open Go Go.RowKit
theorem allRd_nil {P : Program} : ∀ x ∈ ([] : List (Nat × Rp)), RdC P x.1 x.2 := fun x h => by cases h
theorem allRd_cons {P : Program} {f : Nat} {p : Rp} {l : List (Nat × Rp)} (h : RdC P f p) (hl : ∀ x ∈ l, RdC P x.1 x.2) : ∀ x ∈ (f, p) :: l, RdC P x.1 x.2 := fun x hx => by
 rcases List.mem_cons.1 hx with rfl | hm
 ·exact h
 ·exact hl x hm
theorem allLen_nil {P : Program} : ∀ x ∈ ([] : List (Nat × Bool)), LenC P x.1 x.2 := fun x h => by cases h
theorem allLen_cons {P : Program} {f : Nat} {p : Bool} {l : List (Nat × Bool)} (h : LenC P f p) (hl : ∀ x ∈ l, LenC P x.1 x.2) : ∀ x ∈ (f, p) :: l, LenC P x.1 x.2 := fun x hx => by
 rcases List.mem_cons.1 hx with rfl | hm
 ·exact h
 ·exact hl x hm
theorem rpOf_mem : ∀ {l : List (Nat × Rp)} {f : Nat} {p : Rp}, rpOf l f = some p → (f, p) ∈ l
 | [], _, _, h => by cases h
 | x :: l, f, p, h => by
  simp only [rpOf] at h
  cases hb : Nat.beq x.1 f with
  | true =>
   rw [hb] at h
   simp only [cond_true, Option.some.injEq] at h
   rw [← beq_out hb, ← h]
   exact List.mem_cons_self
  | false => rw [hb] at h; exact List.mem_cons_of_mem _ (rpOf_mem h)
theorem lcOf_mem : ∀ {l : List (Nat × Bool)} {f : Nat} {p : Bool}, lcOf l f = some p → (f, p) ∈ l
 | [], _, _, h => by cases h
 | x :: l, f, p, h => by
  simp only [lcOf] at h
  cases hb : Nat.beq x.1 f with
  | true =>
   rw [hb] at h
   simp only [cond_true, Option.some.injEq] at h
   rw [← beq_out hb, ← h]
   exact List.mem_cons_self
  | false => rw [hb] at h; exact List.mem_cons_of_mem _ (lcOf_mem h)
def krFns : List (Nat × Rp) :=
 (102, .i16) ::
 (104, .i32) ::
 (114, .str) ::
 (113, .cstr) ::
 (125, .nstr) ::
 (123, .cnstr) ::
 (137, .nbytes) ::
 (136, .cnbytes) ::
 (134, .uuid) ::
 []
def krLens : List (Nat × Bool) :=
 (107, false) ::
 (106, true) ::
 []
theorem krFns_ok : ∀ x ∈ krFns, RdC Tryz.prog x.1 x.2 :=
 allRd_cons rd_Int16 <|
 allRd_cons rd_Int32 <|
 allRd_cons rd_String <|
 allRd_cons rd_CompactString <|
 allRd_cons rd_NullableString <|
 allRd_cons rd_CompactNullableString <|
 allRd_cons rd_NullableBytes <|
 allRd_cons rd_CompactNullableBytes <|
 allRd_cons rd_Uuid <|
 allRd_nil
theorem krLens_ok : ∀ x ∈ krLens, LenC Tryz.prog x.1 x.2 :=
 allLen_cons len_ArrayLen <|
 allLen_cons len_CompactArrayLen <|
 allLen_nil
def kr : Kr where
 fns := krFns
 lens := krLens
 ok := 108
 comp := 109
 tags := 115
 rty := 154
theorem kr_ok (ev : Value) : KrOk Tryz.prog kr 1 ev where
 rd := fun f p h _ => krFns_ok _ (rpOf_mem h)
 len := fun f c h _ => krLens_ok _ (lcOf_mem h)
 tags := fun _ w rb sb lo st hr h1 h2 h3 h4 => fn_tags w rb sb lo st hr h1 h2 h3 h4
 ok := fun _ w rb sb st hr => fn_ok w rb sb st hr
 comp := fun _ w rb sb st hr hg => fn_complete w rb sb st ev hr hg
theorem kr_ty : KrTy Tryz.prog kr where
 built := fun a n c => by kernel_rfl
 zero := fun w => by kernel_rfl
 size := by kernel_rfl
end Go.Proofs.YtlmnaffhadeolaaGreatDoor.Rdk

namespace Go.Proofs.YtlmnaffhadeolaaGreatDoor
open Go Go.RowKit
def fldCells (f : Fld) : List Value := [.int .i64 f.kind, .int .i64 f.fr, .int .i64 f.upto, .int .i64 f.nul, .int .i64 f.tag, .int .i64 f.df, .int .i64 f.of, .slice none 0 0]
theorem rep_fld0 (ok : Nat → Prop) (w : World) : ∀ (f : Fld), f.sub.isEmpty = true → Rep ok w (fldD f) (fldCells f)
 | .mk a b c d e f g sub, h => by
  have : sub = [] := by cases sub with | nil => rfl | cons _ _ => simp [Fld.sub] at h
  subst this
  simp only [fldD, fldDs, Rep, Reps]
  exact ⟨[_], _, rfl, rfl, [_], _, rfl, rfl, [_], _, rfl, rfl, [_], _, rfl, rfl, [_], _, rfl, rfl, [_], _, rfl, rfl, [_], _, rfl, rfl, [_], _, rfl, ⟨none, 0, rfl, by simp, .inl (by simp)⟩, rfl⟩
def Frs (lo hi : Nat) : Nat → Prop := fun b => lo ≤ b ∧ b < hi
theorem rep_fr {lo : Nat} {w w' : World} {d : D} {cs : List Value} {lo' : Nat} (h : Rep (Frs lo w.heap.size) w d cs) (hb : Below w.heap.size w w') (hl : lo' ≤ lo) : Rep (Frs lo' w'.heap.size) w' d cs :=
 Rep.mono (fun b k => ⟨⟨Nat.le_trans hl k.1, Nat.lt_of_lt_of_le k.2 hb.size⟩, hb.block b k.2⟩) _ _ h
theorem rep_frw {lo lo' hi : Nat} {w : World} {d : D} {cs : List Value} (h : Rep (Frs lo hi) w d cs) (hl : lo' ≤ lo) : Rep (Frs lo' hi) w d cs :=
 Rep.mono (fun _ k => ⟨⟨Nat.le_trans hl k.1, k.2⟩, rfl⟩) _ _ h
theorem rep_sqshape {ok : Nat → Prop} {w : World} {v : Value} {ds : List D} (h : Rep ok w (.sq ds) [v]) : ∃ a c, v = .slice a ds.length c := by
 simp only [Rep] at h
 obtain ⟨a, c, e, _⟩ := h
 exact ⟨a, c, by simpa using e⟩
theorem reps_fnil {ok : Nat → Prop} {w : World} : Reps ok w (([] : List Fld).map fldD) ([] : List (List Value)).flatten := by simp [Reps]
theorem reps_fcons {ok : Nat → Prop} {w : World} {f : Fld} {fs : List Fld} {c : List Value} {cs : List (List Value)} (h : Rep ok w (fldD f) c) (hl : Reps ok w (fs.map fldD) cs.flatten) : Reps ok w ((f :: fs).map fldD) (c :: cs).flatten := by
 simp only [List.map_cons, List.flatten_cons, Reps]
 exact ⟨_, _, rfl, h, hl⟩
theorem rep_fldS {ok : Nat → Prop} {w : World} {a b c d e f g : Int} {sub : List Fld} {v : Value} (h : Rep ok w (.sq (sub.map fldD)) [v]) : Rep ok w (fldD (.mk a b c d e f g sub)) [.int .i64 a, .int .i64 b, .int .i64 c, .int .i64 d, .int .i64 e, .int .i64 f, .int .i64 g, v] := by
 have h2 : Rep ok w (.sq (fldDs sub)) [v] := by rw [fldDs_map]; exact h
 simp only [fldD, Rep, Reps] at h2 ⊢
 exact ⟨[_], _, rfl, rfl, [_], _, rfl, rfl, [_], _, rfl, rfl, [_], _, rfl, rfl, [_], _, rfl, rfl, [_], _, rfl, rfl, [_], _, rfl, rfl, [_], _, rfl, h2, rfl⟩
section
variable {P : Program} {ops : Array Oper} {Q : Exit → Act → World → Prop} {N : Nat} {rest : List Oper} {L : Sl} {w : World} {d : Nat} {ty : TypeId} {pos : String} {aft : Array Edge}
theorem wl_ifNeNil {x : Operand} {t u : TypeId} (hx : ev L x = some .nilIface) (ht : (match P.underlying t with | some (.interface _) => true | _ => false) = true) (hd : Nat.blt d N = true) (h : WL rest P ops Q N ((d, .bool false) :: L) w) :
  WL (⟨some d, .binOp .neq t x (.const .nilIface) u, ty, pos, aft, none⟩ :: rest) P ops Q N L w := by
 intro a k
 split at ht
 ·rename_i ms hu
  refine st_of (o := ⟨some d, .binOp .neq t x (.const .nilIface) u, ty, pos, aft, none⟩) (v := .bool false) (w' := w) rfl ?_ (h _ (k.put _ hd))
  simp only [execOp, k.eval hx, eval_const]
  have h : ∀ d : Nat, (Op.equalIn (d + 1) t .nilIface .nilIface).run P w = .ok true w := fun d => by
   simp [Op.equalIn, run_underlying hu]
  simp only [eqGuard, binOp]
  simp [Op.equal, Op.maxDepth, h 9999]
 ·cases ht
end
theorem own_src {w : World} {B u8 : Nat} {d : Value} {s : List UInt8} (h : Own w B u8 d s) (hl : s.length ≤ srcLim) (hx : 0 < B) (hw : 0 < w.heap.size) : ∃ sb, sb < w.heap.size ∧ (sb = 0 ∨ B ≤ sb) ∧ SrcAt w sb d s := by
 obtain ⟨hxl, ⟨rfl, h0⟩ | ⟨g, cap, cur, rfl, hBg, hheap, hle, hcap, hcs, htake⟩⟩ := id h
 ·exact ⟨0, hw, .inl rfl, hl, .inl ⟨rfl, List.length_eq_zero_iff.1 h0, rfl⟩⟩
 ·refine ⟨g, (Array.getElem?_eq_some_iff.1 hheap).1, .inr hBg, hl, .inr ⟨0, cap, rfl, hle, ⟨cur, _, _, hheap, ?_, ?_⟩, by omega⟩⟩
  ·rw [bv_length]; omega
  ·intro i v hv
   rw [Nat.zero_add]
   rw [← htake, List.getElem?_take] at hv
   split at hv
   ·simpa using hv
   ·cases hv
theorem chg_below {S : Nat → Prop} {B : Nat} {w w' : World} (h : Chg S w w') (hS : ∀ j, j < B → ¬ S j) (hB : B ≤ w.heap.size) : Below B w w' := ⟨h.os, h.tape, h.output, h.size, fun k hk => h.block k (by omega) (hS k hk)⟩
theorem lits_head {ok : Nat → Prop} {w : World} {v : Value} {ds : List D} {cs : List Value} (h : Reps ok w (.lit v :: ds) cs) : cs[0]? = some v := by
 simp only [Reps, Rep] at h
 obtain ⟨c1, c2, rfl, rfl, _⟩ := h
 rfl
theorem be2_ver (n : Nat) (h : n < 32768) : IntKind.i16.wrap (n : Int) = (n : Int) := by
 simp only [IntKind.wrap, IntKind.bits, IntKind.signed]
 simp
 omega
end Go.Proofs.YtlmnaffhadeolaaGreatDoor

/-
 DERIVED: THE SHELF's CONTRACTS AT THIS DUMP, IN PLAIN WORDS (tools/lay-plain.mjs out of 'YtlmnaffhadeolaaGreatDoorLay6.lean', which tools/lay-shelf.mjs wrote): THE SAME DECLARATIONS UNDER THE SAME NAMES: 'import', 'namespace', 'open', 'def', 'theorem' AND NOTHING ELSE: no command of the shelf's: FOR A HAND-IN. Each laying: the table of numbers ('.._ren') and one theorem, a field a fact of the dump's own or the kernel's comparison; each contract: ONE APPLICATION.
-/
namespace Go.Proofs
open Go.Shelf
def Tryz.gl6_ren : Go.Shelf.Ren := ⟨fun | 6 => 120 | 10 => 157 | 11 => 158 | 12 => 159 | 13 => 160 | 14 => 161 | 24 => 162 | 25 => 174 | 26 => 175 | 27 => 176 | 28 => 177 | 29 => 178 | 30 => 179 | 31 => 180 | 32 => 181 | 33 => 182 | 34 => 183 | 35 => 184 | 36 => 185 | 37 => 186 | 38 => 187 | 39 => 188 | n => n, fun | 20 => 20 | 26 => 168 | 35 => 194 | 0 => 0 | 37 => 196 | 3 => 3 | 41 => 174 | 44 => 201 | 49 => 77 | 51 => 122 | 4 => 4 | 54 => 209 | 53 => 208 | 58 => 213 | 5 => 5 | 9 => 9 | 60 => 215 | 64 => 218 | 66 => 220 | 67 => 221 | 17 => 17 | 32 => 191 | 33 => 192 | 82 => 236 | 12 => 12 | 75 => 229 | 76 => 230 | 77 => 231 | 78 => 232 | 79 => 233 | 80 => 234 | n => n, fun | n => n⟩
theorem Tryz.gl6 : Go.Proofs.LaysGg.n6 Tryz.prog Tryz.gl6_ren := {
 mixed := by kernel_rfl
 f6 := Tryz.func120.trans (congrArg some (by kernel_rfl))
 f10 := Tryz.func157.trans (congrArg some (by kernel_rfl))
 f11 := Tryz.func158.trans (congrArg some (by kernel_rfl))
 f12 := Tryz.func159.trans (congrArg some (by kernel_rfl))
 f13 := Tryz.func160.trans (congrArg some (by kernel_rfl))
 f14 := Tryz.func161.trans (congrArg some (by kernel_rfl))
 f24 := Tryz.func162.trans (congrArg some (by kernel_rfl))
 f25 := Tryz.func174.trans (congrArg some (by kernel_rfl))
 f26 := Tryz.func175.trans (congrArg some (by kernel_rfl))
 f27 := Tryz.func176.trans (congrArg some (by kernel_rfl))
 f28 := Tryz.func177.trans (congrArg some (by kernel_rfl))
 f29 := Tryz.func178.trans (congrArg some (by kernel_rfl))
 f30 := Tryz.func179.trans (congrArg some (by kernel_rfl))
 f31 := Tryz.func180.trans (congrArg some (by kernel_rfl))
 f32 := Tryz.func181.trans (congrArg some (by kernel_rfl))
 f33 := Tryz.func182.trans (congrArg some (by kernel_rfl))
 f34 := Tryz.func183.trans (congrArg some (by kernel_rfl))
 f35 := Tryz.func184.trans (congrArg some (by kernel_rfl))
 f36 := Tryz.func185.trans (congrArg some (by kernel_rfl))
 f37 := Tryz.func186.trans (congrArg some (by kernel_rfl))
 f38 := Tryz.func187.trans (congrArg some (by kernel_rfl))
 f39 := Tryz.func188.trans (congrArg some (by kernel_rfl))
 t0 := Tryz.underlying0
 a0 := Tryz.isAgg0
 z0 := Tryz.sizeOf0
 v0 := Tryz.zeroValue0
 i0 := by kernel_rfl
 t3 := Tryz.underlying3
 a3 := Tryz.isAgg3
 z3 := Tryz.sizeOf3
 v3 := Tryz.zeroValue3
 i3 := by kernel_rfl
 t4 := Tryz.underlying4
 a4 := Tryz.isAgg4
 z4 := Tryz.sizeOf4
 v4 := Tryz.zeroValue4
 i4 := by kernel_rfl
 t5 := Tryz.underlying5
 a5 := Tryz.isAgg5
 z5 := Tryz.sizeOf5
 v5 := Tryz.zeroValue5
 i5 := by kernel_rfl
 t9 := Tryz.underlying9
 a9 := Tryz.isAgg9
 z9 := Tryz.sizeOf9
 v9 := Tryz.zeroValue9
 i9 := by kernel_rfl
 t12 := Tryz.underlying12
 a12 := Tryz.isAgg12
 z12 := Tryz.sizeOf12
 v12 := Tryz.zeroValue12
 i12 := by kernel_rfl
 t17 := Tryz.underlying17
 a17 := Tryz.isAgg17
 z17 := Tryz.sizeOf17
 v17 := Tryz.zeroValue17
 i17 := by kernel_rfl
 t20 := Tryz.underlying20
 a20 := Tryz.isAgg20
 z20 := Tryz.sizeOf20
 v20 := Tryz.zeroValue20
 i20 := by kernel_rfl
 t26 := Tryz.underlying168
 a26 := Tryz.isAgg168
 z26 := Tryz.sizeOf168
 v26 := Tryz.zeroValue168
 i26 := by kernel_rfl
 t32 := Tryz.underlying191
 a32 := Tryz.isAgg191
 z32 := Tryz.sizeOf191
 v32 := Tryz.zeroValue191
 i32 := by kernel_rfl
 t33 := Tryz.underlying192
 a33 := Tryz.isAgg192
 z33 := Tryz.sizeOf192
 v33 := Tryz.zeroValue192
 i33 := by kernel_rfl
 t35 := Tryz.underlying194
 a35 := Tryz.isAgg194
 z35 := Tryz.sizeOf194
 v35 := Tryz.zeroValue194
 i35 := by kernel_rfl
 t37 := Tryz.underlying196
 a37 := Tryz.isAgg196
 z37 := Tryz.sizeOf196
 v37 := Tryz.zeroValue196
 i37 := by kernel_rfl
 t41 := Tryz.underlying174
 a41 := Tryz.isAgg174
 z41 := Tryz.sizeOf174
 v41 := Tryz.zeroValue174
 i41 := by kernel_rfl
 t44 := Tryz.underlying201
 a44 := Tryz.isAgg201
 z44 := Tryz.sizeOf201
 v44 := Tryz.zeroValue201
 i44 := by kernel_rfl
 t49 := Tryz.underlying77
 a49 := Tryz.isAgg77
 z49 := Tryz.sizeOf77
 v49 := Tryz.zeroValue77
 i49 := by kernel_rfl
 t51 := Tryz.underlying122
 a51 := Tryz.isAgg122
 z51 := Tryz.sizeOf122
 v51 := Tryz.zeroValue122
 i51 := by kernel_rfl
 t53 := Tryz.underlying208
 a53 := Tryz.isAgg208
 z53 := Tryz.sizeOf208
 v53 := Tryz.zeroValue208
 i53 := by kernel_rfl
 t54 := Tryz.underlying209
 a54 := Tryz.isAgg209
 z54 := Tryz.sizeOf209
 v54 := Tryz.zeroValue209
 i54 := by kernel_rfl
 t58 := Tryz.underlying213
 a58 := Tryz.isAgg213
 z58 := Tryz.sizeOf213
 v58 := Tryz.zeroValue213
 i58 := by kernel_rfl
 t60 := Tryz.underlying215
 a60 := Tryz.isAgg215
 z60 := Tryz.sizeOf215
 v60 := Tryz.zeroValue215
 i60 := by kernel_rfl
 t64 := Tryz.underlying218
 a64 := Tryz.isAgg218
 z64 := Tryz.sizeOf218
 v64 := Tryz.zeroValue218
 i64 := by kernel_rfl
 t66 := Tryz.underlying220
 a66 := Tryz.isAgg220
 z66 := Tryz.sizeOf220
 v66 := Tryz.zeroValue220
 i66 := by kernel_rfl
 t67 := Tryz.underlying221
 a67 := Tryz.isAgg221
 z67 := Tryz.sizeOf221
 v67 := Tryz.zeroValue221
 i67 := by kernel_rfl
 t75 := Tryz.underlying229
 a75 := Tryz.isAgg229
 z75 := Tryz.sizeOf229
 v75 := Tryz.zeroValue229
 i75 := by kernel_rfl
 t76 := Tryz.underlying230
 a76 := Tryz.isAgg230
 z76 := Tryz.sizeOf230
 v76 := Tryz.zeroValue230
 i76 := by kernel_rfl
 t77 := Tryz.underlying231
 a77 := Tryz.isAgg231
 z77 := Tryz.sizeOf231
 v77 := Tryz.zeroValue231
 i77 := by kernel_rfl
 t78 := Tryz.underlying232
 a78 := Tryz.isAgg232
 z78 := Tryz.sizeOf232
 v78 := Tryz.zeroValue232
 i78 := by kernel_rfl
 t79 := Tryz.underlying233
 a79 := Tryz.isAgg233
 z79 := Tryz.sizeOf233
 v79 := Tryz.zeroValue233
 i79 := by kernel_rfl
 t80 := Tryz.underlying234
 a80 := Tryz.isAgg234
 z80 := Tryz.sizeOf234
 v80 := Tryz.zeroValue234
 i80 := by kernel_rfl
 t82 := Tryz.underlying236
 a82 := Tryz.isAgg236
 z82 := Tryz.sizeOf236
 v82 := Tryz.zeroValue236
 i82 := by kernel_rfl }
end Go.Proofs

namespace Go.Proofs.YtlmnaffhadeolaaGreatDoor
open Go Go.RowKit
section
set_option maxRecDepth 100000
theorem appendUuid (ys : List UInt8) (hs : ys.length = 16) : App 91 [.agg (bv ys).toArray] ys := by
 intro d w B xs hpre hown hB hlim
 refine enter Tryz.func91 rfl Tryz.ntmps91 rfl ?_
 refine wc_seq (wc_region (wl_box1 (cs := bv ys) rfl rfl rfl (fun w1 hb1 hg1 hz1 => ?_)))
 repeat first|(with_reducible first|apply wc_seq|apply wc_region|apply wl_nil|apply qk_thn|apply wc_block|apply wc_skip|apply wc_ret|apply wc_exit|apply qk_thn_ret|apply qk_in_ret|apply qk_in|apply qk_thn_exit|apply qk_in_exit|apply qk_round_ret|apply qk_round_exit)|((with_reducible apply ws);exact rfl;exact rfl)|((with_reducible apply wl_yes);exact rfl;exact rfl;exact rfl)|((with_reducible apply wl_no);exact rfl;exact rfl;exact rfl;exact rfl)|((with_reducible apply wl_noU);exact rfl;exact rfl;exact rfl)
 refine wl_arrSl (n := 16) rfl (by kernel_rfl) rfl ?_
 refine wl_appSl (xs := xs) (ys := ys) (B := B) tb_bytes tb_bytes rfl rfl rfl (.inr ⟨w.heap.size, 0, 16, by rw [hs], hb1.cells⟩) (hown.kept hg1 (Decidable.em _)) (by omega) hlim (fun d' w' ho hg => ?_)
 repeat first|(with_reducible first|apply wc_seq|apply wc_region|apply wl_nil|apply qk_thn|apply wc_block|apply wc_skip|apply wc_ret|apply wc_exit|apply qk_thn_ret|apply qk_in_ret|apply qk_in|apply qk_thn_exit|apply qk_in_exit|apply qk_round_ret|apply qk_round_exit)|((with_reducible apply ws);exact rfl;exact rfl)|((with_reducible apply wl_yes);exact rfl;exact rfl;exact rfl)|((with_reducible apply wl_no);exact rfl;exact rfl;exact rfl;exact rfl)|((with_reducible apply wl_noU);exact rfl;exact rfl;exact rfl)
 have hg0 : Grew w w1 d d := ⟨⟨hg1.os, hg1.tape, hg1.output, hg1.size, fun k hk _ => hg1.block k hk (by simp)⟩, .inl rfl⟩
 exact qk_ret1 rfl rfl ⟨_, rfl, ho, hg0.trans hg⟩
end
end Go.Proofs.YtlmnaffhadeolaaGreatDoor

namespace Go.Proofs.YtlmnaffhadeolaaGreatDoor
open Go Go.RowKit
def FnOk (f : Nat) (p : Pf) : Prop := ∀ (args : List Ar) (vs : List Value) (ys : List UInt8) (d : Value) (w : World) (B : Nat) (xs : List UInt8),
 semP p args = some ys → ArsOk B w args vs → Own w B 5 d xs → B ≤ w.heap.size → xs.length + ys.length ≤ lim →
 Calls Tryz.prog f (d :: vs).toArray w fun e w' => ∃ d', e = .returned d' ∧ Own w' B 5 d' (xs ++ ys) ∧ Grew w w' d d'
theorem arVal {B : Nat} {w : World} {a : Ar} {x v : Value} (h : a.val = some x) (k : ArOk B w a v) : v = x := by
 cases a with
 | v y => simp only [Ar.val, Option.some.injEq] at h; subst h; exact k
 | d y =>
  cases y with
  | lit z =>
   simp only [Ar.val, Option.some.injEq] at h; subst h
   simp only [ArOk, Rep] at k
   simpa using k
  | _ => cases h
theorem ars1 {B : Nat} {w : World} {a : Ar} {vs : List Value} (h : ArsOk B w [a] vs) : ∃ v, vs = [v] ∧ ArOk B w a v := by
 obtain ⟨v, r, rfl, h1, h2⟩ := h
 simp only [ArsOk] at h2
 subst h2
 exact ⟨v, rfl, h1⟩
theorem srcOf {B : Nat} {w : World} {d : D} {n : Bool} {ds : List D} {cs : List UInt8} {v : Value} (h : sliceOf d = some (n, ds)) (hb : bytesOf ds = some cs) (k : ArOk B w (.d d) v) : Src w B v cs := by
 have hds := bytesOf_eq hb
 subst hds
 have key : ∀ (b off cap : Nat) (cs' : List Value), Lo B b → CellsAt w b off cs' → Reps (Lo B) w (cs.map byteD) cs' → Src w B (.slice (some ⟨b, off, none⟩) cs.length cap) cs := by
  intro b off cap cs' hb hc hr
  rw [(reps_bytes cs cs').1 hr] at hc
  refine ⟨.inr ⟨b, off, cap, rfl, hc⟩, .inr (fun g hg => ?_)⟩
  simp only [Value.ownBlock, Option.some.injEq] at hg
  subst hg; exact hb
 cases d with
 | sl m l =>
  simp only [sliceOf, Option.some.injEq, Prod.mk.injEq] at h
  obtain ⟨rfl, rfl⟩ := h
  simp only [ArOk, Rep, List.length_map] at k
  obtain ⟨a, c, e, _, h1, h2⟩ := k
  simp only [List.cons.injEq, and_true] at e
  subst e
  cases m with
  | true =>
   obtain ⟨rfl, h0, _⟩ := h1 rfl
   have : cs = [] := by simpa using h0
   subst this
   exact ⟨.inl ⟨_, _, rfl, rfl⟩, .inl rfl⟩
  | false => obtain ⟨b, off, cs', rfl, hb, hc, hr⟩ := h2 rfl; exact key b off c cs' hb hc hr
 | sq l =>
  simp only [sliceOf, Option.some.injEq, Prod.mk.injEq] at h
  obtain ⟨rfl, rfl⟩ := h
  simp only [ArOk, Rep, List.length_map] at k
  obtain ⟨a, c, e, _, h2⟩ := k
  simp only [List.cons.injEq, and_true] at e
  subst e
  rcases h2 with h0 | ⟨b, off, cs', rfl, hb, hc, hr⟩
  ·have : cs = [] := by simpa using h0
   subst this
   exact ⟨.inl ⟨_, _, rfl, rfl⟩, .inl rfl⟩
  ·exact key b off c cs' hb hc hr
 | _ => cases h
theorem k_i16 : FnOk 85 .i16 := by
 intro args vs ys d w B xs hs ha ho hB hl
 cases args with
 | nil => simp [semP] at hs
 | cons a r =>
  cases r with
  | cons _ _ => simp [semP] at hs
  | nil =>
   obtain ⟨v, rfl, hv⟩ := ars1 ha
   simp only [semP] at hs
   split at hs
   ·rename_i n hn; cases hs; rw [arVal hn hv] at *; exact appendInt16 n d w B xs trivial ho hB hl
   ·cases hs
theorem k_i32 : FnOk 86 .i32 := by
 intro args vs ys d w B xs hs ha ho hB hl
 cases args with
 | nil => simp [semP] at hs
 | cons a r =>
  cases r with
  | cons _ _ => simp [semP] at hs
  | nil =>
   obtain ⟨v, rfl, hv⟩ := ars1 ha
   simp only [semP] at hs
   split at hs
   ·rename_i n hn; cases hs; rw [arVal hn hv] at *; exact appendInt32 n d w B xs trivial ho hB hl
   ·cases hs
theorem k_u16 : FnOk 138 .u16 := by
 intro args vs ys d w B xs hs ha ho hB hl
 cases args with
 | nil => simp [semP] at hs
 | cons a r =>
  cases r with
  | cons _ _ => simp [semP] at hs
  | nil =>
   obtain ⟨v, rfl, hv⟩ := ars1 ha
   simp only [semP] at hs
   split at hs
   ·rename_i n hn; cases hs; rw [arVal hn hv] at *; exact appendUint16 n d w B xs trivial ho hB hl
   ·cases hs
theorem k_str : FnOk 90 .str := by
 intro args vs ys d w B xs hs ha ho hB hl
 cases args with
 | nil => simp [semP] at hs
 | cons a r =>
  cases r with
  | cons _ _ => simp [semP] at hs
  | nil =>
   obtain ⟨v, rfl, hv⟩ := ars1 ha
   simp only [semP] at hs
   split at hs
   ·rename_i s hn; split at hs
    ·rename_i hsz; cases hs; rw [arVal hn hv] at *; exact appendString s (by omega) d w B xs trivial ho hB hl
    ·cases hs
   ·cases hs
theorem k_cstr : FnOk 89 .cstr := by
 intro args vs ys d w B xs hs ha ho hB hl
 cases args with
 | nil => simp [semP] at hs
 | cons a r =>
  cases r with
  | cons _ _ => simp [semP] at hs
  | nil =>
   obtain ⟨v, rfl, hv⟩ := ars1 ha
   simp only [semP] at hs
   split at hs
   ·rename_i s hn; split at hs
    ·rename_i hsz; cases hs; rw [arVal hn hv] at *; exact appendCompactString s (by omega) d w B xs trivial ho hB hl
    ·cases hs
   ·cases hs
theorem k_nstr : FnOk 84 .nstr := by
 intro args vs ys d w B xs hs ha ho hB hl
 unfold semP at hs
 split at hs
 all_goals try (rename_i hp; cases hp; done)
 all_goals try (cases hs; done)
 ·obtain ⟨v, rfl, hv⟩ := ars1 ha
  cases hs
  simp only [ArOk, Rep, List.cons.injEq, and_true] at hv
  subst hv
  exact appendNullableString_nil d w B xs trivial ho hB hl
 ·obtain ⟨v, rfl, hv⟩ := ars1 ha
  split at hs
  ·rename_i hsz
   cases hs
   simp only [ArOk, Rep, List.cons.injEq, and_true] at hv
   obtain ⟨b, cs', rfl, _, hc, rfl⟩ := hv
   exact appendNullableString_some ⟨b, 0, none⟩ _ (by omega) d w B xs (hc.cell (i := 0) rfl) ho hB hl
  ·cases hs
theorem k_cnstr : FnOk 83 .cnstr := by
 intro args vs ys d w B xs hs ha ho hB hl
 unfold semP at hs
 split at hs
 all_goals try (rename_i hp; cases hp; done)
 all_goals try (cases hs; done)
 ·obtain ⟨v, rfl, hv⟩ := ars1 ha
  cases hs
  simp only [ArOk, Rep, List.cons.injEq, and_true] at hv
  subst hv
  exact appendCompactNullableString_nil d w B xs trivial ho hB hl
 ·obtain ⟨v, rfl, hv⟩ := ars1 ha
  split at hs
  ·rename_i hsz
   cases hs
   simp only [ArOk, Rep, List.cons.injEq, and_true] at hv
   obtain ⟨b, cs', rfl, _, hc, rfl⟩ := hv
   exact appendCompactNullableString_some ⟨b, 0, none⟩ _ (by omega) d w B xs (hc.cell (i := 0) rfl) ho hB hl
  ·cases hs
theorem k_bytes : FnOk 141 .bytes := by
 intro args vs ys d w B xs hs ha ho hB hl
 unfold semP at hs
 split at hs
 all_goals try (rename_i hp; cases hp; done)
 all_goals try (cases hs; done)
 ·obtain ⟨v, rfl, hv⟩ := ars1 ha
  split at hs
  ·rename_i n ds hsl
   split at hs
   ·rename_i cs hcs
    split at hs
    ·rename_i hlen
     cases hs
     exact appendBytes v cs hlen d w B xs (srcOf hsl hcs hv) ho hB hl
    ·cases hs
   ·cases hs
  ·cases hs
theorem k_cbytes : FnOk 140 .cbytes := by
 intro args vs ys d w B xs hs ha ho hB hl
 unfold semP at hs
 split at hs
 all_goals try (rename_i hp; cases hp; done)
 all_goals try (cases hs; done)
 ·obtain ⟨v, rfl, hv⟩ := ars1 ha
  split at hs
  ·rename_i n ds hsl
   split at hs
   ·rename_i cs hcs
    split at hs
    ·rename_i hlen
     cases hs
     exact appendCompactBytes v cs hlen d w B xs (srcOf hsl hcs hv) ho hB hl
    ·cases hs
   ·cases hs
  ·cases hs
theorem k_nbytes : FnOk 93 .nbytes := by
 intro args vs ys d w B xs hs ha ho hB hl
 unfold semP at hs
 split at hs
 all_goals try (rename_i hp; cases hp; done)
 all_goals try (cases hs; done)
 ·obtain ⟨v, rfl, hv⟩ := ars1 ha
  cases hs
  simp only [ArOk, Rep, List.cons.injEq, and_true] at hv
  obtain ⟨a, c, rfl, _, h1, _⟩ := hv
  obtain ⟨rfl, h0, rfl⟩ := h1 (by simp)
  subst h0
  exact appendNullableBytes_nil 0 d w B xs trivial ho hB hl
 ·obtain ⟨v, rfl, hv⟩ := ars1 ha
  split at hs
  ·rename_i cs hcs
   split at hs
   ·rename_i hlen
    cases hs
    have hsrc := srcOf (n := false) rfl hcs hv
    simp only [ArOk, Rep, List.cons.injEq, and_true] at hv
    obtain ⟨a, c, rfl, _, _, h2⟩ := hv
    obtain ⟨b, off, cs', rfl, _⟩ := h2 (by simp)
    exact appendNullableBytes_some _ _ _ cs hlen d w B xs hsrc ho hB hl
   ·cases hs
  ·cases hs
theorem k_cnbytes : FnOk 92 .cnbytes := by
 intro args vs ys d w B xs hs ha ho hB hl
 unfold semP at hs
 split at hs
 all_goals try (rename_i hp; cases hp; done)
 all_goals try (cases hs; done)
 ·obtain ⟨v, rfl, hv⟩ := ars1 ha
  cases hs
  simp only [ArOk, Rep, List.cons.injEq, and_true] at hv
  obtain ⟨a, c, rfl, _, h1, _⟩ := hv
  obtain ⟨rfl, h0, rfl⟩ := h1 (by simp)
  subst h0
  exact appendCompactNullableBytes_nil 0 d w B xs trivial ho hB hl
 ·obtain ⟨v, rfl, hv⟩ := ars1 ha
  split at hs
  ·rename_i cs hcs
   split at hs
   ·rename_i hlen
    cases hs
    have hsrc := srcOf (n := false) rfl hcs hv
    simp only [ArOk, Rep, List.cons.injEq, and_true] at hv
    obtain ⟨a, c, rfl, _, _, h2⟩ := hv
    obtain ⟨b, off, cs', rfl, _⟩ := h2 (by simp)
    exact appendCompactNullableBytes_some _ _ _ cs hlen d w B xs hsrc ho hB hl
   ·cases hs
  ·cases hs
theorem k_arr : FnOk 88 .arr := by
 intro args vs ys d w B xs hs ha ho hB hl
 unfold semP at hs
 split at hs
 all_goals try (rename_i hp; cases hp; done)
 all_goals try (cases hs; done)
 ·obtain ⟨v, rfl, hv⟩ := ars1 ha
  split at hs
  ·rename_i n hn
   cases hs
   simp only [ArOk] at hv
   subst hv
   obtain ⟨m, rfl⟩ := Int.eq_ofNat_of_zero_le hn.1
   exact appendArrayLen m (by omega) d w B xs trivial ho hB hl
  ·cases hs
theorem k_carr : FnOk 87 .carr := by
 intro args vs ys d w B xs hs ha ho hB hl
 unfold semP at hs
 split at hs
 all_goals try (rename_i hp; cases hp; done)
 all_goals try (cases hs; done)
 ·obtain ⟨v, rfl, hv⟩ := ars1 ha
  split at hs
  ·rename_i n hn
   cases hs
   simp only [ArOk] at hv
   subst hv
   obtain ⟨m, rfl⟩ := Int.eq_ofNat_of_zero_le hn.1
   exact appendCompactArrayLen m (by omega) d w B xs trivial ho hB hl
  ·cases hs
theorem k_uvar : FnOk 94 .uvar := by
 intro args vs ys d w B xs hs ha ho hB hl
 unfold semP at hs
 split at hs
 all_goals try (rename_i hp; cases hp; done)
 all_goals try (cases hs; done)
 ·obtain ⟨v, rfl, hv⟩ := ars1 ha
  split at hs
  ·rename_i n hn
   cases hs
   simp only [ArOk] at hv
   subst hv
   obtain ⟨m, rfl⟩ := Int.eq_ofNat_of_zero_le hn.1
   exact appendUvarint m (by omega) d w B xs trivial ho hB hl
  ·cases hs
theorem k_uuid : FnOk 91 .uuid := by
 intro args vs ys d w B xs hs ha ho hB hl
 unfold semP at hs
 split at hs
 all_goals try (rename_i hp; cases hp; done)
 all_goals try (cases hs; done)
 ·obtain ⟨v, rfl, hv⟩ := ars1 ha
  split at hs
  ·rename_i cs hcs
   split at hs
   ·rename_i hlen
    cases hs
    simp only [ArOk] at hv
    obtain ⟨cells, rfl, hr⟩ := hv
    rw [bytesOf_eq hcs, reps_bytes] at hr
    subst hr
    exact appendUuid _ hlen d w B xs trivial ho hB hl
   ·cases hs
  ·cases hs
def fns : List (Nat × Pf) :=
 (85, .i16) ::
 (86, .i32) ::
 (138, .u16) ::
 (90, .str) ::
 (89, .cstr) ::
 (84, .nstr) ::
 (83, .cnstr) ::
 (141, .bytes) ::
 (140, .cbytes) ::
 (93, .nbytes) ::
 (92, .cnbytes) ::
 (88, .arr) ::
 (87, .carr) ::
 (91, .uuid) ::
 (94, .uvar) ::
 []
theorem fns_all : ∀ kv ∈ fns, FnOk kv.1 kv.2 := by
 unfold fns
 refine List.forall_mem_cons.2 ⟨k_i16, ?_⟩
 refine List.forall_mem_cons.2 ⟨k_i32, ?_⟩
 refine List.forall_mem_cons.2 ⟨k_u16, ?_⟩
 refine List.forall_mem_cons.2 ⟨k_str, ?_⟩
 refine List.forall_mem_cons.2 ⟨k_cstr, ?_⟩
 refine List.forall_mem_cons.2 ⟨k_nstr, ?_⟩
 refine List.forall_mem_cons.2 ⟨k_cnstr, ?_⟩
 refine List.forall_mem_cons.2 ⟨k_bytes, ?_⟩
 refine List.forall_mem_cons.2 ⟨k_cbytes, ?_⟩
 refine List.forall_mem_cons.2 ⟨k_nbytes, ?_⟩
 refine List.forall_mem_cons.2 ⟨k_cnbytes, ?_⟩
 refine List.forall_mem_cons.2 ⟨k_arr, ?_⟩
 refine List.forall_mem_cons.2 ⟨k_carr, ?_⟩
 refine List.forall_mem_cons.2 ⟨k_uuid, ?_⟩
 refine List.forall_mem_cons.2 ⟨k_uvar, ?_⟩
 intro kv h
 cases h
theorem pfOf_mem : ∀ {l : List (Nat × Pf)} {f : Nat} {p : Pf}, pfOf l f = some p → (f, p) ∈ l
 | [], _, _, h => by cases h
 | kv :: r, f, p, h => by
  simp only [pfOf] at h
  cases hb : Nat.beq kv.1 f with
  | true =>
   rw [hb] at h
   simp only [cond_true, Option.some.injEq] at h
   have := beq_out hb
   subst h; subst this; simp
  | false => rw [hb] at h; exact List.mem_cons_of_mem _ (pfOf_mem h)
def kt (tlen teach : Nat) (ver : Int) : Kt := ⟨fns, tlen, teach, .int .i16 ver⟩
theorem fnsOk (tlen teach : Nat) (ver : Int) : FnsOk Tryz.prog 5 (kt tlen teach ver) := by
 intro f p h _
 exact fns_all _ (pfOf_mem h)
end Go.Proofs.YtlmnaffhadeolaaGreatDoor

namespace Go.Proofs.YtlmnaffhadeolaaGreatDoor.Rdk
open Go Go.RowKit
theorem run_lenMap {P : Program} {t ty kt et : TypeId} (w : World) (m : Option Nat) (n : Nat) (h : P.underlying t = some (.map kt et)) (hm : (m = none ∧ n = 0) ∨ ∃ r es clock, m = some r ∧ w.heap[r]? = some (.map es clock) ∧ es.size = n) :
  (Builtin.len_ #[t] ty #[.map m]).run P w = .ok (.int .i64 (n : Int)) w := by
 rcases hm with ⟨rfl, rfl⟩ | ⟨r, es, clock, rfl, hb, rfl⟩
 ·simp [Builtin.len_, run_underlying h, goInt]
 ·simp [Builtin.len_, run_underlying h, MapKept.run_getObj_map hb, goInt]
theorem mp_len {ok : Nat → Prop} {w : World} {kvs : List (Nat × D)} {v : Value} (h : Rep ok w (.mp kvs) [v]) : ∃ m, v = .map m ∧ ((m = none ∧ kvs.length = 0) ∨ ∃ r es clock, m = some r ∧ w.heap[r]? = some (.map es clock) ∧ es.size = kvs.length) := by
 simp only [Rep] at h
 rcases h with ⟨e, rfl⟩ | ⟨r, es, clock, e, _, hb, hm, _⟩
 ·simp only [List.cons.injEq, and_true] at e
  exact ⟨none, e, .inl ⟨rfl, rfl⟩⟩
 ·simp only [List.cons.injEq, and_true] at e
  exact ⟨some r, e, .inr ⟨r, es, clock, rfl, hb, by rw [hm.1, List.length_map]⟩⟩
section
variable {P : Program} {ops : Array Oper} {Q : Exit → Act → World → Prop} {N : Nat} {rest : List Oper} {L : Sl} {w : World} {d : Nat} {ty : TypeId} {pos : String} {aft : Array Edge}
theorem wl_lenMap {x : Operand} {t kt et : TypeId} {m : Option Nat} {n : Nat} (hx : ev L x = some (.map m)) (hu : P.underlying t = some (.map kt et)) (hm : (m = none ∧ n = 0) ∨ ∃ r es clock, m = some r ∧ w.heap[r]? = some (.map es clock) ∧ es.size = n) (hd : Nat.blt d N = true)
  (h : WL rest P ops Q N ((d, .int .i64 (n : Int)) :: L) w) : WL (⟨some d, .call ⟨.builtin .len, #[x], #[t]⟩, ty, pos, aft, none⟩ :: rest) P ops Q N L w := by
 intro a k
 refine st_of (o := ⟨some d, .call ⟨.builtin .len, #[x], #[t]⟩, ty, pos, aft, none⟩) rfl ?_ (h _ (k.put _ hd))
 simp [execOp, resolve, k.eval hx, invoke, builtin, run_lenMap w m n hu hm]
end
theorem tlenOk (teach : Nat) (ver : Int) : TlenOk Tryz.prog (kt 95 teach ver) := by
 intro B w b off kvs v _ hc hr
 obtain ⟨m, rfl, hm⟩ := mp_len hr
 refine enter Tryz.func95 rfl Tryz.ntmps95 rfl ?_
 refine wc_seq (wc_region (wl_assign rfl rfl (wl_nil (qk_thn ?_))))
 refine wc_seq (wc_region ?_)
 refine wt rfl rfl ?_
 refine wt rfl rfl ?_
 refine wt rfl rfl ?_
 refine wl_load rfl to_map rfl hc ?_
 refine wl_lenMap rfl um hm rfl ?_
 refine wt rfl rfl ?_
 exact wl_nil (qk_thn (wc_ret (qk_ret1 rfl rfl ⟨rfl, rfl⟩)))
end Go.Proofs.YtlmnaffhadeolaaGreatDoor.Rdk

namespace Go.Proofs.YtlmnaffhadeolaaGreatDoor.Rdk
open Go Go.RowKit Go.Sort Go.Lib Go.Shelf
set_option maxRecDepth 100000
noncomputable def siT : TypeInfo := (Tryz.prog.info? 166).get (by kernel_rfl)
noncomputable def siE : TypeInfo := (Tryz.prog.info? 77).get (by kernel_rfl)
theorem siK (n : Nat) (h2 : 2 ≤ n) : Lib.swapperK n siE 10 = 6 := by
 have a : siE.hasPointers = false := by kernel_rfl
 have b : siE.bytes = 4 := by kernel_rfl
 have c : (n == 0) = false := by simp; omega
 have d : (n == 1) = false := by simp; omega
 simp [Lib.swapperK, a, b, c, d]
set_option maxHeartbeats 2000000 in
theorem less_u32 (blk off c Bs size : Nat) (W : World) (G : Nat → Int) (hs : W.cell? ⟨Bs, 0, none⟩ = some (.slice (some ⟨blk, off, none⟩) size c))
  (hc : ∀ t, t < size → W.cell? ⟨blk, off + t, none⟩ = some (.int .u32 (G t))) (i j : Nat) (hi : i < size) (hj : j < size) :
  Calls Tryz.prog 121 #[.int .i64 i, .int .i64 j, .pointer (some ⟨Bs, 0, none⟩)] W fun e w' => e = .returned (.bool (decide (G i < G j))) ∧ ∃ q, w' = W.drewN q := by
 have ci := hc i hi
 have cj := hc j hj
 go_enter Tryz.func121, Tryz.ntmps121
 go_wp2
 go_quiet (fail)
 go_wp2
 go_ret
 exact ⟨rfl, nq, rfl⟩
abbrev encU : Int → Value := Value.int .u32
theorem holds_row {w : World} {B blk cap : Nat} {e : TypeId} {zs : List Int} (h : w.ownsRow B e 1 (.slice (some ⟨blk, 0, none⟩) zs.length cap) zs.length (zs.map encU)) : Holds encU w blk 0 zs.toArray := by
 obtain ⟨_, ⟨he, _⟩ | ⟨g, cap', cur, he, _, hheap, hle, hcap, hcs, htake⟩⟩ := h
 ·cases he
 ·cases he
  intro j hj
  have hj' : j < zs.length := by simpa using hj
  have hx : cur[j]? = some (encU zs[j]) := by
   have : (cur.toList.take (zs.length * 1))[j]? = some (encU zs[j]) := by rw [htake]; simp [hj']
   rw [List.getElem?_take] at this
   split at this
   ·simpa using this
   ·cases this
  refine ⟨?_, by simp [World.frozen?, hheap]⟩
  rw [show (zs.toArray)[j]! = zs[j] by simp [hj']]
  simp [World.cell?, hheap, hx]
theorem sorted_row {w w' : World} {blk n : Nat} {cur : Array Value} {e : TypeId} {d' : Array Int} {os : Array Obj} (hb : w.heap[blk]? = some (.cells cur e (0, 0))) (hsz : d'.size ≤ cur.size) (hw : w' = grow (putRow encU (Sort.ahead w n) blk 0 d') os) :
  CellsAt w' blk 0 (d'.toList.map encU) ∧ Chg (· = blk) w w' := by
 subst hw
 have hlt : blk < w.heap.size := (Array.getElem?_eq_some_iff.1 hb).1
 have hbl : (putRow encU (Sort.ahead w n) blk 0 d').heap[blk]? = some (.cells (putCells encU 0 d' cur) e (0, 0)) := by
  simp [putRow, mapBlock, Sort.ahead, Array.getElem?_modify, hb, onCells]
 constructor
 ·refine ⟨putCells encU 0 d' cur, e, (0, 0), by rw [heap_grow_old _ _ (by simpa using hlt)]; exact hbl, by simp [putCells]; omega, fun i v hv => ?_⟩
  rw [List.getElem?_map] at hv
  have hi : i < d'.size := by
   cases hx : d'.toList[i]? with
   | none => rw [hx] at hv; cases hv
   | some x => simpa using (List.getElem?_eq_some_iff.1 hx).1
  simp only [Array.getElem?_toList, Array.getElem?_eq_getElem hi, Option.map_some, Option.some.injEq] at hv
  have hic : i < cur.size := by omega
  simp only [Nat.zero_add, putCells, Array.getElem?_mapIdx, Array.getElem?_eq_getElem hic, Option.map_some, Nat.zero_le, true_and, if_pos hi, Nat.sub_zero]
  rw [getElem!_pos d' i hi, hv]
 ·refine ⟨rfl, rfl, rfl, by simp, fun k hk hne => ?_⟩
  rw [heap_grow_old _ _ (by simpa using hk)]
  have : blk ≠ k := fun e => hne e.symm
  simp [putRow, mapBlock, Sort.ahead, Array.getElem?_modify, this]
theorem tiny_sorted : ∀ (zs : List Int), zs.length ≤ 1 → zs.Pairwise (fun x y => x ≤ y)
 | [], _ => List.Pairwise.nil
 | [_], _ => List.pairwise_singleton _ _
theorem fn_sortTiny (p : Option Addr) (n c : Nat) (h1 : n ≤ 1) (Bs : Nat) (w : World) :
  Calls Tryz.prog 120 #[.iface 166 (.slice p n c), .func (.func 121) #[] #[.pointer (some ⟨Bs, 0, none⟩)]] w fun e w' => e = .returned (.tuple #[]) ∧ ∃ os, w' = grow w os := by
 have hK : Lib.swapperK n siE 10 = n + 1 := by
  rcases Nat.eq_zero_or_pos n with h | h
  ·subst h; simp [Lib.swapperK]
  ·obtain rfl : n = 1 := by omega
   simp [Lib.swapperK]
 exact Any.sort_Slice_tiny Tryz.gl6 166 77 siT siE (by kernel_rfl) (by kernel_rfl) (by kernel_rfl) (by kernel_rfl) 10 (fun _ => by kernel_rfl) p n c h1 (165 + n) (by
  rw [hK]
  rcases Nat.eq_zero_or_pos n with h | h
  ·subst h; kernel_rfl
  ·obtain rfl : n = 1 := by omega
   kernel_rfl) (.func 121) #[] #[.pointer (some ⟨Bs, 0, none⟩)] w
set_option maxHeartbeats 2000000 in
theorem fn_sort (w : World) (B blk cap Bs : Nat) (e0 : TypeId) (zs : List Int) (hlen : zs.length < 4611686018427387904) (hbs : Box w Bs [.slice (some ⟨blk, 0, none⟩) zs.length cap] e0)
  (hrow : w.ownsRow B 77 1 (.slice (some ⟨blk, 0, none⟩) zs.length cap) zs.length (zs.map encU)) (hne : Bs ≠ blk) :
  Calls Tryz.prog 120 #[.iface 166 (.slice (some ⟨blk, 0, none⟩) zs.length cap), .func (.func 121) #[] #[.pointer (some ⟨Bs, 0, none⟩)]] w fun e w' =>
   e = .returned (.tuple #[]) ∧ ∃ zs' : List Int, zs'.Perm zs ∧ zs'.Pairwise (fun x y => x ≤ y) ∧ CellsAt w' blk 0 (zs'.map encU) ∧ Chg (· = blk) w w' := by
 have hH := holds_row hrow
 obtain ⟨hxl, ⟨he, _⟩ | ⟨g, cap', cur, he, hBg, hheap, hle, hcap, hcs, htake⟩⟩ := id hrow
 ·cases he
 cases he
 have hblk : blk < w.heap.size := (Array.getElem?_eq_some_iff.1 hheap).1
 have hsz : zs.toArray.size = zs.length := by simp
 by_cases h2 : 2 ≤ zs.length
 ·have hless : LessReads Tryz.prog 121 #[.pointer (some ⟨Bs, 0, none⟩)] encU ltInt blk 0 zs.toArray.size w := by
   intro m os dk hs i j hi hj
   rw [hsz] at hs hi hj
   refine less_u32 blk 0 cap Bs zs.length _ (fun t => dk[t]!) ?_ (fun t ht => ?_) i j hi hj
   ·unfold sortWorld
    rw [cell?_grow _ _ _ (by simpa using hbs.lt), cell?_putRow_other _ _ blk 0 dk _ (Or.inl hne)]
    exact hbs.cell (i := 0) rfl
   ·unfold sortWorld
    rw [cell?_grow _ _ _ (by simpa using hblk)]
    exact cell?_putRow encU (Sort.ahead w m) blk 0 zs.toArray dk (holds_ahead _ _ _ _ _ _ hH) (by rw [hs, hsz]) t (by omega)
  have hS := Any.sort_Slice_sorted Tryz.gl6 166 77 siT siE (by kernel_rfl) (by kernel_rfl) (by kernel_rfl) (by kernel_rfl) 10 (fun _ => by kernel_rfl) (by kernel_rfl) (fun _ => by kernel_rfl) encU (fun _ => rfl) ltInt swo_ltInt 121 _
   (enters_of Tryz.func121 (by kernel_rfl) rfl) blk 0 cap zs.toArray (by rw [hsz]; exact h2) (by rw [hsz]; exact hlen) 170 (by rw [hsz, siK _ h2]; kernel_rfl) true
   (fun args W => run_callFunc_extern Tryz.func170 (by kernel_rfl) (by kernel_rfl) (by kernel_rfl) (e := Extern.ReflectliteSwapper.swap true) (by kernel_rfl) args W) w hless hH hblk
  change Calls Tryz.prog 120 _ _ _ at hS
  rw [hsz] at hS
  refine hS.mono (fun e w' h => ?_)
  obtain ⟨h1, d', n, os, hp, hso, hw⟩ := h
  have hd : d'.size = zs.length := by rw [hp.1, hsz]
  refine ⟨h1, d'.toList, ?_, ?_, ?_⟩
  ·have := hp.2.2
   rw [← hd] at this
   have e1 : d'.toList.take zs.length = d'.toList := List.take_of_length_le (by simp; omega)
   simpa [hd, e1] using this
  ·rw [List.pairwise_iff_getElem]
   intro i j hi hj hij
   have hi' : i < d'.size := by simpa using hi
   have hj' : j < d'.size := by simpa using hj
   have := hso i j (Nat.zero_le _) hij (by omega)
   rw [getElem!_pos d' i hi', getElem!_pos d' j hj'] at this
   simp only [ltInt, decide_eq_false_iff_not] at this
   simp only [Array.getElem_toList]
   omega
  ·exact sorted_row hheap (by rw [hcs, hd]; omega) hw
 ·have hn : zs.length ≤ 1 := by omega
  have hS := fn_sortTiny (some ⟨blk, 0, none⟩) zs.length cap hn Bs w
  refine hS.mono (fun e w' h => ?_)
  obtain ⟨h1, os, hw⟩ := h
  refine ⟨h1, zs, List.Perm.refl _, ?_, ?_⟩
  ·exact tiny_sorted zs hn
  ·subst hw
   refine ⟨⟨cur, 77, (0, 0), by rw [heap_grow_old _ _ hblk]; exact hheap, by rw [List.length_map]; omega, fun i v hv => ?_⟩, ⟨rfl, rfl, rfl, by simp, fun k hk _ => heap_grow_old _ _ hk⟩⟩
   rw [← htake, List.getElem?_take] at hv
   split at hv
   ·simpa using hv
   ·cases hv
end Go.Proofs.YtlmnaffhadeolaaGreatDoor.Rdk

namespace Go.Proofs.YtlmnaffhadeolaaGreatDoor.Rdk
open Go Go.RowKit
set_option maxRecDepth 100000
structure GrewB (bx : Nat) (w w' : World) (d d' : Value) : Prop where
 chg : Chg (fun j => j = bx ∨ d.ownBlock = some j) w w'
 fresh : d'.ownBlock = d.ownBlock ∨ ∀ g, d'.ownBlock = some g → w.heap.size ≤ g
theorem Own.under {w w' : World} {B u8 : Nat} {d : Value} {xs : List UInt8} (h : Own w B u8 d xs) (hb : Below w.heap.size w w') : Own w' B u8 d xs := by
 refine h.kept (grown_of hb) ?_
 cases hd : d.ownBlock with
 | none => exact .inl rfl
 | some g => exact .inr (by simp)
theorem GrewB.refl (bx : Nat) (w : World) (d : Value) : GrewB bx w w d d := ⟨Chg.refl _ _, .inl rfl⟩
theorem GrewB.trans {bx : Nat} {a b c : World} {d e f : Value} (h : GrewB bx a b d e) (k : GrewB bx b c e f) : GrewB bx a c d f := by
 refine ⟨⟨k.chg.os.trans h.chg.os, k.chg.tape.trans h.chg.tape, k.chg.output.trans h.chg.output, Nat.le_trans h.chg.size k.chg.size, fun i hi hne => ?_⟩, ?_⟩
 ·rw [← h.chg.block i hi hne]
  refine k.chg.block i (Nat.lt_of_lt_of_le hi h.chg.size) (fun e' => ?_)
  rcases e' with e' | e'
  ·exact hne (.inl e')
  ·rcases h.fresh with hf | hf
   ·exact hne (.inr (hf.symm.trans e'))
   ·have := hf i e'; omega
 ·rcases k.fresh with kf | kf
  ·rcases h.fresh with hf | hf
   ·exact .inl (kf.trans hf)
   ·exact .inr (fun g hg => hf g (kf ▸ hg))
  ·exact .inr (fun g hg => Nat.le_trans h.chg.size (kf g hg))
theorem GrewB.grew {bx : Nat} {w w' : World} {d d' : Value} (h : Grew w w' d d') : GrewB bx w w' d d' :=
 ⟨⟨h.grown.os, h.grown.tape, h.grown.output, h.grown.size, fun k hk hn => h.grown.block k hk (fun e => hn (.inr e.symm))⟩, h.fresh⟩
theorem GrewB.stored {bx : Nat} {w w' : World} (d : Value) (h : w.grownBy w' (some bx)) : GrewB bx w w' d d := ⟨(Chg.grown h).wide (fun _ h => .inl h), .inl rfl⟩
theorem GrewB.ne {bx : Nat} {w w' : World} {d d' : Value} (h : GrewB bx w w' d d') (hne : d.ownBlock ≠ some bx) (hlt : bx < w.heap.size) : d'.ownBlock ≠ some bx := by
 rcases h.fresh with hf | hf
 ·rw [hf]; exact hne
 ·intro e; have := hf bx e; omega
theorem Src.chg {S : Nat → Prop} {w w' : World} {B : Nat} {v : Value} {ys : List UInt8} (h : Src w B v ys) (hc : Chg S w w') (hS : ∀ j, j < B → ¬ S j) (hB : B ≤ w.heap.size) : Src w' B v ys := by
 refine ⟨?_, h.2⟩
 rcases h.1 with ⟨a, c, rfl, rfl⟩ | ⟨b, off, c, rfl, hcs⟩
 ·exact .inl ⟨a, c, rfl, rfl⟩
 ·rcases h.2 with rfl | h2
  ·exact .inl ⟨_, _, rfl, rfl⟩
  have hb : b < B := h2 b rfl
  exact .inr ⟨b, off, c, rfl, hcs.of_block (hc.block b (by omega) (hS b hb))⟩
theorem GrewB.low {bx B : Nat} {w w' : World} {d d' : Value} (h : GrewB bx w w' d d') (hBx : B ≤ bx) (hd : ∀ g, d.ownBlock = some g → B ≤ g) (hB : B ≤ w.heap.size) : Below B w w' :=
 ⟨h.chg.os, h.chg.tape, h.chg.output, h.chg.size, fun k hk => h.chg.block k (by omega) (fun e => by
  rcases e with e | e
  ·omega
  ·have := hd k e; omega)⟩
theorem own_one {w : World} {B u8 : Nat} {d : Value} {xs : List UInt8} (h : Own w B u8 d xs) : d.oneCell' = true := by
 obtain ⟨a, c, rfl⟩ := h.shape
 rfl
set_option maxHeartbeats 1000000 in
theorem fn_put1 (w : World) (bx B k : Nat) (val d : Value) (xs cs : List UInt8) (e : TypeId) (hbx : Box w bx [d] e) (hBx : B ≤ bx) (ho : Own w B 5 d xs) (hB : B ≤ w.heap.size) (hne : d.ownBlock ≠ some bx) (hv : Src w B val cs) (hk : k < 4294967296) (hc : cs.length < 2147483648)
  (hl : xs.length + (uvar k ++ uvar cs.length ++ cs).length ≤ lim) :
  Calls Tryz.prog 143 #[.int .u32 (k : Int), val, .pointer (some ⟨bx, 0, none⟩)] w fun en w' => en = .returned (.tuple #[]) ∧ ∃ d', Box w' bx [d'] e ∧ Own w' B 5 d' (xs ++ (uvar k ++ uvar cs.length ++ cs)) ∧ GrewB bx w w' d d' := by
 obtain ⟨va, vc, rfl⟩ := hv.1.shape
 simp only [List.length_append] at hl
 refine enter (vs := [.int .u32 (k : Int), .slice va cs.length vc, .pointer (some ⟨bx, 0, none⟩)]) Tryz.func143 rfl Tryz.ntmps143 rfl ?_
 repeat first|(with_reducible first|apply wc_seq|apply wc_region|apply wl_nil|apply qk_thn|apply wc_block|apply wc_skip|apply wc_ret|apply wc_exit|apply qk_thn_ret|apply qk_in_ret|apply qk_in|apply qk_thn_exit|apply qk_in_exit|apply qk_round_ret|apply qk_round_exit)|((with_reducible apply ws);exact rfl;exact rfl)|((with_reducible apply wl_yes);exact rfl;exact rfl;exact rfl)|((with_reducible apply wl_no);exact rfl;exact rfl;exact rfl;exact rfl)|((with_reducible apply wl_noU);exact rfl;exact rfl;exact rfl)
 refine wl_loadB rfl to_bytes rfl hbx rfl ?_
 repeat first|(with_reducible first|apply wc_seq|apply wc_region|apply wl_nil|apply qk_thn|apply wc_block|apply wc_skip|apply wc_ret|apply wc_exit|apply qk_thn_ret|apply qk_in_ret|apply qk_in|apply qk_thn_exit|apply qk_in_exit|apply qk_round_ret|apply qk_round_exit)|((with_reducible apply ws);exact rfl;exact rfl)|((with_reducible apply wl_yes);exact rfl;exact rfl;exact rfl)|((with_reducible apply wl_no);exact rfl;exact rfl;exact rfl;exact rfl)|((with_reducible apply wl_noU);exact rfl;exact rfl;exact rfl)
 refine wl_call rfl (by kernel_rfl) rfl ((appendUvarint k hk d w B xs trivial ho hB (by omega)).mono ?_)
 rintro en w1 ⟨d1, rfl, ho1, hg1⟩
 refine ⟨d1, rfl, ?_⟩
 have hb1 := hbx.kept hg1.grown (fun e => hne e.symm)
 have hs1 := hg1.grown.size
 refine wl_storeB rfl rfl to_bytes (own_one ho1) hb1 rfl (fun w2 hb2 hg2 hs2 => ?_)
 have hG1 : GrewB bx w w1 d d1 := GrewB.grew hg1
 have hn1 := hG1.ne hne hbx.lt
 have ho2 := ho1.kept hg2 (.inr hn1)
 have hG2 := hG1.trans (GrewB.stored d1 hg2)
 have hsz2 : w.heap.size ≤ w2.heap.size := by omega
 repeat first|(with_reducible first|apply wc_seq|apply wc_region|apply wl_nil|apply qk_thn|apply wc_block|apply wc_skip|apply wc_ret|apply wc_exit|apply qk_thn_ret|apply qk_in_ret|apply qk_in|apply qk_thn_exit|apply qk_in_exit|apply qk_round_ret|apply qk_round_exit)|((with_reducible apply ws);exact rfl;exact rfl)|((with_reducible apply wl_yes);exact rfl;exact rfl;exact rfl)|((with_reducible apply wl_no);exact rfl;exact rfl;exact rfl;exact rfl)|((with_reducible apply wl_noU);exact rfl;exact rfl;exact rfl)
 refine wl_loadB rfl to_bytes rfl hb2 rfl ?_
 repeat first|(with_reducible first|apply wc_seq|apply wc_region|apply wl_nil|apply qk_thn|apply wc_block|apply wc_skip|apply wc_ret|apply wc_exit|apply qk_thn_ret|apply qk_in_ret|apply qk_in|apply qk_thn_exit|apply qk_in_exit|apply qk_round_ret|apply qk_round_exit)|((with_reducible apply ws);exact rfl;exact rfl)|((with_reducible apply wl_yes);exact rfl;exact rfl;exact rfl)|((with_reducible apply wl_no);exact rfl;exact rfl;exact rfl;exact rfl)|((with_reducible apply wl_noU);exact rfl;exact rfl;exact rfl)
 refine wl_conv .u32 rfl ti_i64 ti_u32 rfl (r := ((cs.length : Nat) : Int)) (by rw [IntKind.wrap_u32]; omega) ?_
 repeat first|(with_reducible first|apply wc_seq|apply wc_region|apply wl_nil|apply qk_thn|apply wc_block|apply wc_skip|apply wc_ret|apply wc_exit|apply qk_thn_ret|apply qk_in_ret|apply qk_in|apply qk_thn_exit|apply qk_in_exit|apply qk_round_ret|apply qk_round_exit)|((with_reducible apply ws);exact rfl;exact rfl)|((with_reducible apply wl_yes);exact rfl;exact rfl;exact rfl)|((with_reducible apply wl_no);exact rfl;exact rfl;exact rfl;exact rfl)|((with_reducible apply wl_noU);exact rfl;exact rfl;exact rfl)
 refine wl_call rfl (by kernel_rfl) rfl ((appendUvarint cs.length (by omega) d1 w2 B _ trivial ho2 (by omega) (by rw [List.length_append]; omega)).mono ?_)
 rintro en w3 ⟨d3, rfl, ho3, hg3⟩
 refine ⟨d3, rfl, ?_⟩
 have hb3 := hb2.kept hg3.grown (fun e => hn1 e.symm)
 have hs3 := hg3.grown.size
 refine wl_storeB rfl rfl to_bytes (own_one ho3) hb3 rfl (fun w4 hb4 hg4 hs4 => ?_)
 have hG3 := hG2.trans (GrewB.grew hg3)
 have hn3 := hG3.ne hne hbx.lt
 have ho4 := ho3.kept hg4 (.inr hn3)
 have hG4 := hG3.trans (GrewB.stored d3 hg4)
 repeat first|(with_reducible first|apply wc_seq|apply wc_region|apply wl_nil|apply qk_thn|apply wc_block|apply wc_skip|apply wc_ret|apply wc_exit|apply qk_thn_ret|apply qk_in_ret|apply qk_in|apply qk_thn_exit|apply qk_in_exit|apply qk_round_ret|apply qk_round_exit)|((with_reducible apply ws);exact rfl;exact rfl)|((with_reducible apply wl_yes);exact rfl;exact rfl;exact rfl)|((with_reducible apply wl_no);exact rfl;exact rfl;exact rfl;exact rfl)|((with_reducible apply wl_noU);exact rfl;exact rfl;exact rfl)
 refine wl_loadB rfl to_bytes rfl hb4 rfl ?_
 repeat first|(with_reducible first|apply wc_seq|apply wc_region|apply wl_nil|apply qk_thn|apply wc_block|apply wc_skip|apply wc_ret|apply wc_exit|apply qk_thn_ret|apply qk_in_ret|apply qk_in|apply qk_thn_exit|apply qk_in_exit|apply qk_round_ret|apply qk_round_exit)|((with_reducible apply ws);exact rfl;exact rfl)|((with_reducible apply wl_yes);exact rfl;exact rfl;exact rfl)|((with_reducible apply wl_no);exact rfl;exact rfl;exact rfl;exact rfl)|((with_reducible apply wl_noU);exact rfl;exact rfl;exact rfl)
 have hv4 : Src w4 B (.slice va cs.length vc) cs := Src.chg hv hG4.chg (fun j hj e => by
  rcases e with e | e
  ·omega
  ·have := ho.ge j e; omega) hB
 refine wl_appSl tb_bytes tb_bytes rfl rfl rfl hv4.1 ho4 (by omega) (by simp only [List.length_append]; omega) (fun d5 w5 ho5 hg5 => ?_)
 have hb5 := hb4.kept hg5.grown (fun e => hn3 e.symm)
 have hG5 := hG4.trans (GrewB.grew hg5)
 have hn5 := hG5.ne hne hbx.lt
 refine wl_storeB rfl rfl to_bytes (own_one ho5) hb5 rfl (fun w6 hb6 hg6 hs6 => ?_)
 have ho6 := ho5.kept hg6 (.inr hn5)
 have hG6 := hG5.trans (GrewB.stored d5 hg6)
 refine wl_nil ?_
 refine qk_end0 rfl ⟨rfl, d5, hb6, ?_, hG6⟩
 simpa [List.append_assoc] using ho6
theorem rt_u32 : rowTy Tryz.prog 166 77 1 = true := by kernel_rfl
theorem to_u32s : tyOne Tryz.prog 166 = true := by kernel_rfl
theorem es_u32s : elemSize Tryz.prog 166 = some 1 := by kernel_rfl
theorem el_u32s : (elemSize Tryz.prog 166).isSome = true := by kernel_rfl
theorem un_u32s : Tryz.prog.underlying 166 = some (.slice 77) := by kernel_rfl
theorem zv_u32s (w : World) : (zeroValue 166).run Tryz.prog w = .ok (.slice none 0 0) w := by kernel_rfl
theorem ne_u32s : (166 : Nat) ≠ 77 := by decide
theorem rising_len : ∀ (l : List Nat) (lo M : Nat), l.Pairwise (· < ·) → (∀ x ∈ l, lo ≤ x ∧ x < M) → l.length ≤ M - lo
 | [], _, _, _, _ => by simp
 | x :: l, lo, M, hp, h => by
  have hp' := List.pairwise_cons.1 hp
  have hx := h x (by simp)
  have := rising_len l (x + 1) M hp'.2 (fun y hy => ⟨hp'.1 y hy, (h y (by simp [hy])).2⟩)
  simp only [List.length_cons]; omega
theorem semT_keys {kvs : List (Nat × D)} {ys : List UInt8} (h : semT kvs = some ys) : ∀ k ∈ kvs.map (·.1), k < 4294967296 := by
 intro k hk
 obtain ⟨kv, hkv, rfl⟩ := List.mem_map.1 hk
 obtain ⟨i, hi, rfl⟩ := List.mem_iff_getElem.1 hkv
 obtain ⟨_, _, _, _, _, h3, _⟩ := semT_at kvs ys h i hi
 exact h3
theorem row_block {w : World} {B e sz n g : Nat} {d : Value} {xs : List Value} (h : w.ownsRow B e sz d n xs) (hg : d.ownBlock = some g) : ∃ cur, w.heap[g]? = some (.cells cur e (0, 0)) := by
 rcases h.2 with ⟨rfl, _⟩ | ⟨g', cap', cur, rfl, _, hheap, _⟩
 ·simp [Value.ownBlock] at hg
 ·simp only [Value.ownBlock, Option.some.injEq] at hg; subst hg; exact ⟨cur, hheap⟩
theorem Row.kept {w w' : World} {B e sz n : Nat} {d : Value} {xs : List Value} {row : Option Nat} (h : w.ownsRow B e sz d n xs) (hg : w.grownBy w' row) (hne : d.ownBlock = none ∨ d.ownBlock ≠ row) : w'.ownsRow B e sz d n xs :=
 World.ownsRow.kept h hg hne
theorem nodup_one {α β : Type} (f : α → β) : ∀ (l : List α), (l.map f).Nodup → ∀ x ∈ l, ∀ y ∈ l, f x = f y → x = y
 | [], _, x, hx, _, _, _ => by cases hx
 | a :: l, hn, x, hx, y, hy, h => by
  simp only [List.map_cons, List.nodup_cons] at hn
  rcases List.mem_cons.1 hx with e1 | h1
  ·rcases List.mem_cons.1 hy with e2 | h2
   ·rw [e1, e2]
   ·exact (hn.1 (List.mem_map.2 ⟨y, h2, by rw [← h, e1]⟩)).elim
  ·rcases List.mem_cons.1 hy with e2 | h2
   ·exact (hn.1 (List.mem_map.2 ⟨x, h1, by rw [h, e2]⟩)).elim
   ·exact nodup_one f l hn.2 x h1 y h2 h
theorem leftOf_nil (es : Array MapEntry) : leftOf es #[] = es := by
 unfold leftOf
 exact Array.filter_eq_self.2 (by simp)
theorem arOf {B : Nat} {w : World} {d : D} {s : Bool × List D} {v : Value} (h : sliceOf d = some s) (hr : Rep (Lo B) w d [v]) : ArOk B w (.d d) v := by
 cases d <;> first | exact hr | (simp [sliceOf] at h)
set_option maxHeartbeats 4000000 in
theorem fn_each (w : World) (bx B b off : Nat) (kvs : List (Nat × D)) (v d : Value) (xs ys : List UInt8) (e : TypeId) (hs : semT kvs = some ys) (hb : b < B) (hc : w.cell? ⟨b, off, none⟩ = some v) (hr : Rep (Lo B) w (.mp kvs) [v]) (hbx : Box w bx [d] e) (hBx : B ≤ bx) (ho : Own w B 5 d xs) (hB : B ≤ w.heap.size) (hne : d.ownBlock ≠ some bx)
  (hl : xs.length + ys.length ≤ lim) :
  Calls Tryz.prog 66 #[.pointer (some ⟨b, off, none⟩), .func (.func 143) #[] #[.pointer (some ⟨bx, 0, none⟩)]] w fun en w' => en = .returned (.tuple #[]) ∧ ∃ d', Box w' bx [d'] e ∧ Own w' B 5 d' (xs ++ ys) ∧ GrewB bx w w' d d' := by
 obtain ⟨m, rfl, hm⟩ := mp_len hr
 refine enter (vs := [.pointer (some ⟨b, off, none⟩), .func (.func 143) #[] #[.pointer (some ⟨bx, 0, none⟩)]]) Tryz.func66 rfl Tryz.ntmps66 rfl ?_
 refine wc_seq (wc_seq (wc_region ?_))
 refine wt rfl rfl ?_
 refine wt rfl rfl ?_
 refine wt rfl rfl ?_
 refine wl_load rfl to_map rfl hc ?_
 refine wl_lenMap rfl um hm rfl ?_
 refine wt rfl rfl ?_
 refine wl_nil (qk_thn ?_)
 by_cases hz : kvs = []
 ·subst hz
  simp only [semT, Option.some.injEq] at hs
  subst hs
  refine wc_yes rfl rfl (wc_ret (qk_thn_ret (qk_ret0 rfl ⟨rfl, d, hbx, by simpa using ho, GrewB.refl _ _ _⟩)))
 have hpos : 0 < kvs.length := List.length_pos_iff.2 hz
 refine wc_no rfl (by simp; omega) (wc_skip (qk_thn ?_))
 simp only [Rep] at hr
 rcases hr with ⟨_, h0⟩ | ⟨r, es, clock, hrm, hrB, hmap, hmapd, hks⟩
 ·exact absurd h0 hz
 simp only [List.cons.injEq, Value.map.injEq, and_true] at hrm
 subst hrm
 rw [repKs_iff] at hks
 have hkeys := semT_keys hs
 have hlen32 : kvs.length ≤ 4294967296 := by
  have := rising_len (kvs.map (·.1)) 0 4294967296 hmapd.2.2.2 (fun x hx => ⟨Nat.zero_le _, hkeys x hx⟩)
  simpa using this
 have hbw : b < w.heap.size := by omega
 have hrw : r < w.heap.size := by have : r < B := hrB; omega
 refine wc_seq (wc_region ?_)
 refine wt rfl rfl ?_
 refine wt rfl rfl ?_
 refine wt rfl rfl ?_
 refine wl_load rfl to_map rfl hc ?_
 refine wl_lenMap rfl um hm rfl ?_
 refine wl_makeRow (B := w.heap.size) (n := kvs.length) rt_u32 rfl (by simp only [many]; omega) rfl (Nat.le_refl _) (fun w1 hrow1 hg1 hs1 => ?_)
 refine wl_alloc zv_u32s rfl rfl (fun w2 hb2 hg2 hs2 => ?_)
 refine wl_storeB rfl rfl to_u32s rfl hb2 rfl (fun w3 hb3' hg3 hs3 => ?_)
 have hb3 : Box w3 w1.heap.size [.slice (some ⟨w.heap.size, 0, none⟩) 0 kvs.length] 166 := hb3'
 clear hb3'
 have hrow3 := Row.kept (Row.kept hrow1 hg2 (.inr (by simp [Value.ownBlock]))) hg3 (.inr (by simp [Value.ownBlock]; omega))
 have hc13 : Chg (fun j => w.heap.size ≤ j) w w3 := ((Chg.grown0 hg1).trans (Chg.grown0 hg2)).trans ((Chg.grown hg3).wide (fun j hj => by have : j = w1.heap.size := hj; omega))
 have hmap3 : w3.heap[r]? = some (.map es clock) := (hc13.block r hrw (by omega)).trans hmap
 have hcell3 : w3.cell? ⟨b, off, none⟩ = some (.map (some r)) := by
  rw [← hc]; simp only [World.cell?, hc13.block b hbw (by omega)]
 refine wl_nil (qk_thn ?_)
 refine wc_seq (wc_seq (wc_region ?_))
 refine wt rfl rfl ?_
 refine wt rfl rfl ?_
 refine wt rfl rfl ?_
 refine wl_load rfl to_map rfl hcell3 ?_
 refine wl_range rfl um hmap3 rfl ?_
 have hit4 : (w3.alloc (.mapIter (some r) clock #[] clock)).heap[w3.heap.size]? = some (.mapIter (some r) clock #[] clock) := heap_alloc_new _ _
 have hs4 : (w3.alloc (.mapIter (some r) clock #[] clock)).heap.size = w3.heap.size + 1 := by simp
 have hg4 := grown_alloc w3 (.mapIter (some r) clock #[] clock)
 generalize w3.alloc (.mapIter (some r) clock #[] clock) = w4 at *
 have hb4 := hb3.kept hg4 (by simp)
 have hrow4 := Row.kept hrow3 hg4 (.inr (by simp [Value.ownBlock]))
 have hc14 : Chg (fun j => w.heap.size ≤ j) w w4 := hc13.trans (Chg.grown0 hg4)
 refine wl_nil (qk_thn ?_)
 refine wc_block (wc_loop (α := List Int × Value × Array Nat × Nat) (fun _ => [(0, .pointer (some ⟨b, off, none⟩)), (1, .func (.func 143) #[] #[.pointer (some ⟨bx, 0, none⟩)]), (4, .pointer (some ⟨w1.heap.size, 0, none⟩)), (24, .pointer (some ⟨w3.heap.size, 0, none⟩))])
  (fun z w' => Box w' w1.heap.size [z.2.1] 166 ∧ w'.ownsRow w.heap.size 77 1 z.2.1 z.1.length (z.1.map encU) ∧ w'.heap[w3.heap.size]? = some (.mapIter (some r) clock z.2.2.1 z.2.2.2) ∧ clock ≤ z.2.2.2 ∧
   (z.1.map encU ++ (leftOf es z.2.2.1).toList.map (·.key)).Perm (es.toList.map (·.key)) ∧ Chg (fun j => w.heap.size ≤ j) w w')
  (fun z => (leftOf es z.2.2.1).size) ([], .slice (some ⟨w.heap.size, 0, none⟩) 0 kvs.length, #[], clock) ⟨rfl, rfl, rfl, rfl, trivial⟩ ⟨hb4, hrow4, hit4, Nat.le_refl _, ?_, hc14⟩ ?_)
 ·simp [leftOf_nil]
 ·rintro ⟨zs, dv, seen, c0⟩ w5 ⟨hb5, hrow5, hit5, hcl5, hperm5, hc5⟩
  simp only [] at hb5 hrow5 hit5 hcl5 hperm5
  have hmap5 : w5.heap[r]? = some (.map es clock) := (hc5.block r hrw (by omega)).trans hmap
  refine wc_seq (wc_region ?_)
  refine wl_next rfl hit5 hmap5 hmapd.2.1.1 hcl5 rfl (fun hleft => ?_) (fun en hen w6 hit6 hc6 hs6 => ?_)
  ·-- nothing is left
   have hl0 : (leftOf es seen).toList = [] := List.length_eq_zero_iff.1 (by simpa using hleft)
   rw [hl0] at hperm5
   simp only [List.map_nil, List.append_nil] at hperm5
   have hzl : zs.length = kvs.length := by
    have := hperm5.length_eq
    simp only [List.length_map, Array.length_toList] at this
    rw [this, hmapd.1, List.length_map]
   obtain ⟨g, cap, rfl, hBg, hglt, _⟩ := Row.cells hrow5 (by omega)
   obtain ⟨cur, hcur⟩ := row_block (g := g) hrow5 rfl
   have hog : w1.heap.size ≠ g := by
    intro e'
    have h1 : w5.heap[w1.heap.size]? = some (.cells cur 77 (0, 0)) := by rw [e']; exact hcur
    have h2 := hb5
    simp only [Box, h1, Option.some.injEq, Obj.cells.injEq] at h2
    exact ne_u32s h2.2.1.symm
   refine wl_extract rfl rfl rfl ?_
   repeat first|(with_reducible first|apply wc_seq|apply wc_region|apply wl_nil|apply qk_thn|apply wc_block|apply wc_skip|apply wc_ret|apply wc_exit|apply qk_thn_ret|apply qk_in_ret|apply qk_in|apply qk_thn_exit|apply qk_in_exit|apply qk_round_ret|apply qk_round_exit)|((with_reducible apply ws);exact rfl;exact rfl)|((with_reducible apply wl_yes);exact rfl;exact rfl;exact rfl)|((with_reducible apply wl_no);exact rfl;exact rfl;exact rfl;exact rfl)|((with_reducible apply wl_noU);exact rfl;exact rfl;exact rfl)
   refine wc_no rfl rfl ?_
   repeat first|(with_reducible first|apply wc_seq|apply wc_region|apply wl_nil|apply qk_thn|apply wc_block|apply wc_skip|apply wc_ret|apply wc_exit|apply qk_thn_ret|apply qk_in_ret|apply qk_in|apply qk_thn_exit|apply qk_in_exit|apply qk_round_ret|apply qk_round_exit)|((with_reducible apply ws);exact rfl;exact rfl)|((with_reducible apply wl_yes);exact rfl;exact rfl;exact rfl)|((with_reducible apply wl_no);exact rfl;exact rfl;exact rfl;exact rfl)|((with_reducible apply wl_noU);exact rfl;exact rfl;exact rfl)
   refine wl_loadB rfl to_u32s rfl hb5 rfl ?_
   refine wl_makeIface rfl un_u32s rfl ?_
   refine wl_makeFunc (caps := [.tmp 4]) rfl rfl ?_
   refine wl_call rfl (by kernel_rfl) rfl ((fn_sort w5 w.heap.size g cap w1.heap.size _ zs (by omega) hb5 hrow5 hog).mono ?_)
   rintro en w6 ⟨rfl, zs', hp', hso', hcs6, hc6⟩
   refine ⟨_, rfl, ?_⟩
   have hzz : zs' = (kvs.map (·.1)).map (fun k : Nat => (k : Int)) := keys_sorted hmapd (fun k hk => by
    obtain ⟨kv, hkv, rfl⟩ := List.mem_map.1 hk
    obtain ⟨x, hx, hxk, _⟩ := hks kv hkv
    exact ⟨x, hx, hxk⟩) hperm5 hp' hso'
   subst hzz
   have hc06 : Chg (fun j => w.heap.size ≤ j) w w6 := hc5.trans (hc6.wide (fun j hj => by have : j = g := hj; omega))
   have hw6 : Below w.heap.size w w6 := ⟨hc06.os, hc06.tape, hc06.output, hc06.size, fun k hk => hc06.block k hk (by omega)⟩
   have hb6 := hb5.chg hc6 hog
   have hbx6 := hbx.chg hc06 (by have := hbx.lt; omega)
   have ho6 := Own.under ho hw6
   repeat first|(with_reducible first|apply wc_seq|apply wc_region|apply wl_nil|apply qk_thn|apply wc_block|apply wc_skip|apply wc_ret|apply wc_exit|apply qk_thn_ret|apply qk_in_ret|apply qk_in|apply qk_thn_exit|apply qk_in_exit|apply qk_round_ret|apply qk_round_exit)|((with_reducible apply ws);exact rfl;exact rfl)|((with_reducible apply wl_yes);exact rfl;exact rfl;exact rfl)|((with_reducible apply wl_no);exact rfl;exact rfl;exact rfl;exact rfl)|((with_reducible apply wl_noU);exact rfl;exact rfl;exact rfl)
   refine wl_loadB rfl to_u32s rfl hb6 rfl ?_
   refine wl_len rfl el_u32s rfl ?_
   repeat first|(with_reducible first|apply wc_seq|apply wc_region|apply wl_nil|apply qk_thn|apply wc_block|apply wc_skip|apply wc_ret|apply wc_exit|apply qk_thn_ret|apply qk_in_ret|apply qk_in|apply qk_thn_exit|apply qk_in_exit|apply qk_round_ret|apply qk_round_exit)|((with_reducible apply ws);exact rfl;exact rfl)|((with_reducible apply wl_yes);exact rfl;exact rfl;exact rfl)|((with_reducible apply wl_no);exact rfl;exact rfl;exact rfl;exact rfl)|((with_reducible apply wl_noU);exact rfl;exact rfl;exact rfl)
   refine wc_loop (α := Nat × Value) (fun z => [(0, .pointer (some ⟨b, off, none⟩)), (1, .func (.func 143) #[] #[.pointer (some ⟨bx, 0, none⟩)]), (37, .slice (some ⟨g, 0, none⟩) zs.length cap), (38, .int .i64 (zs.length : Int)), (39, .int .i64 (z.1 : Int))])
    (fun z w' => z.1 ≤ kvs.length ∧ Box w' bx [z.2] e ∧ (∃ pre, semT (kvs.take z.1) = some pre ∧ Own w' B 5 z.2 (xs ++ pre)) ∧ GrewB bx w6 w' d z.2)
    (fun z => kvs.length - z.1) (0, d) ⟨rfl, rfl, rfl, rfl, rfl, trivial⟩ ⟨Nat.zero_le _, hbx6, ⟨[], by simp [semT], by simpa using ho6⟩, GrewB.refl _ _ _⟩ ?_
   rintro ⟨i, di⟩ w7 ⟨hin, hb7, ⟨pre, hpre, ho7⟩, hG7⟩
   simp only [] at hin hb7 hpre ho7 hG7
   have hs7 := hG7.chg.size
   have hs6 := hc06.size
   repeat first|(with_reducible first|apply wc_seq|apply wc_region|apply wl_nil|apply qk_thn|apply wc_block|apply wc_skip|apply wc_ret|apply wc_exit|apply qk_thn_ret|apply qk_in_ret|apply qk_in|apply qk_thn_exit|apply qk_in_exit|apply qk_round_ret|apply qk_round_exit)|((with_reducible apply ws);exact rfl;exact rfl)|((with_reducible apply wl_yes);exact rfl;exact rfl;exact rfl)|((with_reducible apply wl_no);exact rfl;exact rfl;exact rfl;exact rfl)|((with_reducible apply wl_noU);exact rfl;exact rfl;exact rfl)
   by_cases hi : i < kvs.length
   ·refine wc_yes rfl (by simp; omega) ?_
    repeat first|(with_reducible first|apply wc_seq|apply wc_region|apply wl_nil|apply qk_thn|apply wc_block|apply wc_skip|apply wc_ret|apply wc_exit|apply qk_thn_ret|apply qk_in_ret|apply qk_in|apply qk_thn_exit|apply qk_in_exit|apply qk_round_ret|apply qk_round_exit)|((with_reducible apply ws);exact rfl;exact rfl)|((with_reducible apply wl_yes);exact rfl;exact rfl;exact rfl)|((with_reducible apply wl_no);exact rfl;exact rfl;exact rfl;exact rfl)|((with_reducible apply wl_noU);exact rfl;exact rfl;exact rfl)
    obtain ⟨pre', cs, post, k1, k2, k3, k4, k5, k6⟩ := semT_at kvs ys hs i hi
    rw [hpre] at k1
    simp only [Option.some.injEq] at k1
    subst k1
    have hkeep : ∀ j, j < w.heap.size → j ≠ bx → (B ≤ j → d.ownBlock ≠ some j) → w7.heap[j]? = w.heap[j]? := fun j hj h1 h2 => by
     rw [hG7.chg.block j (by omega) (fun h => by
      rcases h with h | h
      ·exact h1 h
      ·exact h2 (ho.ge j h) h)]
     exact hc06.block j hj (by omega)
    have hgk : w7.heap[g]? = w6.heap[g]? := hG7.chg.block g (by have := hc6.size; omega) (fun h => by
     rcases h with h | h
     ·have := hbx.lt; omega
     ·have := ho.lt g h; omega)
    refine wl_indexAddr rfl rfl es_u32s rfl (by omega) ?_
    refine wl_load rfl to_u32 rfl (v := .int .u32 ((kvs[i].1 : Nat) : Int)) ?_ ?_
    ·have h1 := (hcs6.of_block hgk).cell (i := i) (v := encU ((kvs[i].1 : Nat) : Int)) (by simp [hi])
     rw [Nat.mul_one]; exact h1
    repeat first|(with_reducible first|apply wc_seq|apply wc_region|apply wl_nil|apply qk_thn|apply wc_block|apply wc_skip|apply wc_ret|apply wc_exit|apply qk_thn_ret|apply qk_in_ret|apply qk_in|apply qk_thn_exit|apply qk_in_exit|apply qk_round_ret|apply qk_round_exit)|((with_reducible apply ws);exact rfl;exact rfl)|((with_reducible apply wl_yes);exact rfl;exact rfl;exact rfl)|((with_reducible apply wl_no);exact rfl;exact rfl;exact rfl;exact rfl)|((with_reducible apply wl_noU);exact rfl;exact rfl;exact rfl)
    refine wt rfl rfl ?_
    refine wl_load rfl to_map rfl (v := .map (some r)) ?_ ?_
    ·rw [← hc]
     show w7.cell? ⟨b, off, none⟩ = _
     simp only [World.cell?, hkeep b hbw (by omega) (fun h => by omega)]
    have hrB' : r < B := hrB
    have hmap7 : w7.heap[r]? = some (.map es clock) := (hkeep r hrw (by omega) (fun h => by omega)).trans hmap
    have hkin : kvs[i] ∈ kvs := List.getElem_mem hi
    obtain ⟨x0, hx0, hx0k, hx0r⟩ := hks kvs[i] hkin
    repeat first|(with_reducible first|apply wc_seq|apply wc_region|apply wl_nil|apply qk_thn|apply wc_block|apply wc_skip|apply wc_ret|apply wc_exit|apply qk_thn_ret|apply qk_in_ret|apply qk_in|apply qk_thn_exit|apply qk_in_exit|apply qk_round_ret|apply qk_round_exit)|((with_reducible apply ws);exact rfl;exact rfl)|((with_reducible apply wl_yes);exact rfl;exact rfl;exact rfl)|((with_reducible apply wl_no);exact rfl;exact rfl;exact rfl;exact rfl)|((with_reducible apply wl_noU);exact rfl;exact rfl;exact rfl)
    refine wl_lookup rfl rfl um uk hmap7 hmapd ⟨x0, hx0, hx0k⟩ rfl (fun en hen hek => ?_)
    obtain rfl : en = x0 := nodup_one (·.key) es.toList hmapd.2.1.2.2 en (Array.mem_toList_iff.2 hen) x0 (Array.mem_toList_iff.2 hx0) (by rw [hek, hx0k])
    obtain ⟨s0, hs0, hbs0⟩ := Option.bind_eq_some_iff.1 k2
    have hsrc : Src w B en.val cs := srcOf (n := s0.1) (ds := s0.2) hs0 hbs0 (arOf hs0 hx0r)
    have hsrc7 : Src w7 B en.val cs := Src.chg (Src.chg hsrc hc06 (fun j hj => by omega) (by omega)) hG7.chg (fun j hj h => by
     rcases h with h | h
     ·omega
     ·have := ho.ge j h; omega) (by omega)
    have hll : (xs ++ pre).length + (uvar kvs[i].1 ++ uvar cs.length ++ cs).length ≤ lim := by
     rw [k6] at hl
     simp only [List.length_append] at hl ⊢
     omega
    refine wl_callV (vs := [.int .u32 ((kvs[i].1 : Nat) : Int), en.val]) (bs := [.pointer (some ⟨bx, 0, none⟩)]) (args := [.tmp 44, .tmp 50]) rfl rfl (by kernel_rfl) rfl ((fn_put1 w7 bx B kvs[i].1 en.val di (xs ++ pre) cs e hb7 hBx ho7 (by omega) (hG7.ne hne (by have := hbx.lt; omega)) hsrc7 k3 k4 hll).mono ?_)
    rintro en' w8 ⟨rfl, d8, hb8, ho8, hG8⟩
    refine ⟨_, rfl, ?_⟩
    repeat first|(with_reducible first|apply wc_seq|apply wc_region|apply wl_nil|apply qk_thn|apply wc_block|apply wc_skip|apply wc_ret|apply wc_exit|apply qk_thn_ret|apply qk_in_ret|apply qk_in|apply qk_thn_exit|apply qk_in_exit|apply qk_round_ret|apply qk_round_exit)|((with_reducible apply ws);exact rfl;exact rfl)|((with_reducible apply wl_yes);exact rfl;exact rfl;exact rfl)|((with_reducible apply wl_no);exact rfl;exact rfl;exact rfl;exact rfl)|((with_reducible apply wl_noU);exact rfl;exact rfl;exact rfl)
    refine wl_add rfl rfl rfl (r := ((i + 1 : Nat) : Int)) (by rw [IntKind.wrap_i64]; omega) ?_
    repeat first|(with_reducible first|apply wc_seq|apply wc_region|apply wl_nil|apply qk_thn|apply wc_block|apply wc_skip|apply wc_ret|apply wc_exit|apply qk_thn_ret|apply qk_in_ret|apply qk_in|apply qk_thn_exit|apply qk_in_exit|apply qk_round_ret|apply qk_round_exit)|((with_reducible apply ws);exact rfl;exact rfl)|((with_reducible apply wl_yes);exact rfl;exact rfl;exact rfl)|((with_reducible apply wl_no);exact rfl;exact rfl;exact rfl;exact rfl)|((with_reducible apply wl_noU);exact rfl;exact rfl;exact rfl)
    refine qk_round (i + 1, d8) ⟨rfl, rfl, rfl, rfl, rfl, trivial⟩ ⟨hi, hb8, ⟨_, k5, by simpa [List.append_assoc] using ho8⟩, hG7.trans hG8⟩ (by show kvs.length - (i + 1) < kvs.length - i; omega)
   ·refine wc_no rfl (by simp; omega) ?_
    repeat first|(with_reducible first|apply wc_seq|apply wc_region|apply wl_nil|apply qk_thn|apply wc_block|apply wc_skip|apply wc_ret|apply wc_exit|apply qk_thn_ret|apply qk_in_ret|apply qk_in|apply qk_thn_exit|apply qk_in_exit|apply qk_round_ret|apply qk_round_exit)|((with_reducible apply ws);exact rfl;exact rfl)|((with_reducible apply wl_yes);exact rfl;exact rfl;exact rfl)|((with_reducible apply wl_no);exact rfl;exact rfl;exact rfl;exact rfl)|((with_reducible apply wl_noU);exact rfl;exact rfl;exact rfl)
    have hie : i = kvs.length := by omega
    rw [hie, List.take_length, hs] at hpre
    simp only [Option.some.injEq] at hpre
    subst hpre
    refine qk_end0 rfl ⟨rfl, di, hb7, ho7, ?_⟩
    refine ⟨⟨hG7.chg.os.trans hc06.os, hG7.chg.tape.trans hc06.tape, hG7.chg.output.trans hc06.output, by omega, fun k hk hn => (hG7.chg.block k (by omega) hn).trans (hc06.block k hk (by omega))⟩, ?_⟩
    rcases hG7.fresh with h | h
    ·exact .inl h
    ·exact .inr (fun q hq => by have := h q hq; omega)
  ·-- one more key
   have hen' : en ∈ es.toList := by
    simp only [leftOf, Array.toList_filter, List.mem_filter] at hen
    exact hen.1
   obtain ⟨k, _, hek⟩ := hmapd.2.2.1 en hen'
   have hpush := leftOf_push hen hmapd.2.1.2.1
   have hzle : zs.length < es.size := by
    have h1 := hperm5.length_eq
    have h2 := hpush.length_eq
    simp only [List.length_append, List.length_map, Array.length_toList, List.length_cons] at h1 h2
    omega
   have hes : es.size = kvs.length := by rw [hmapd.1, List.length_map]
   have hs5 := hc5.size
   have hits : w3.heap.size < w5.heap.size := (Array.getElem?_eq_some_iff.1 hit5).1
   have hne5 : dv.ownBlock ≠ some w3.heap.size := by
    intro h
    obtain ⟨cur, hcur⟩ := row_block hrow5 h
    rw [hcur] at hit5; cases hit5
   have hno5 : dv.ownBlock ≠ some w1.heap.size := by
    intro h
    obtain ⟨cur, hcur⟩ := row_block hrow5 h
    have h2 := hb5
    simp only [Box, hcur, Option.some.injEq, Obj.cells.injEq] at h2
    exact ne_u32s h2.2.1.symm
   have hib : w1.heap.size ≠ w3.heap.size := by omega
   have hb6 := hb5.chg hc6 (fun h : w1.heap.size = w3.heap.size => hib h)
   have hg6 : w5.grownBy w6 (some w3.heap.size) := ⟨hc6.os, hc6.tape, hc6.output, hc6.size, fun j hj hn => hc6.block j hj (fun h => hn (by rw [h]))⟩
   have hrow6 := Row.kept hrow5 hg6 (.inr hne5)
   have hmap6 : w6.heap[r]? = some (.map es clock) := (hc6.block r (by omega) (fun h : r = w3.heap.size => by omega)).trans hmap5
   refine wl_extract rfl rfl rfl ?_
   repeat first|(with_reducible first|apply wc_seq|apply wc_region|apply wl_nil|apply qk_thn|apply wc_block|apply wc_skip|apply wc_ret|apply wc_exit|apply qk_thn_ret|apply qk_in_ret|apply qk_in|apply qk_thn_exit|apply qk_in_exit|apply qk_round_ret|apply qk_round_exit)|((with_reducible apply ws);exact rfl;exact rfl)|((with_reducible apply wl_yes);exact rfl;exact rfl;exact rfl)|((with_reducible apply wl_no);exact rfl;exact rfl;exact rfl;exact rfl)|((with_reducible apply wl_noU);exact rfl;exact rfl;exact rfl)
   refine wc_yes rfl rfl ?_
   repeat first|(with_reducible first|apply wc_seq|apply wc_region|apply wl_nil|apply qk_thn|apply wc_block|apply wc_skip|apply wc_ret|apply wc_exit|apply qk_thn_ret|apply qk_in_ret|apply qk_in|apply qk_thn_exit|apply qk_in_exit|apply qk_round_ret|apply qk_round_exit)|((with_reducible apply ws);exact rfl;exact rfl)|((with_reducible apply wl_yes);exact rfl;exact rfl;exact rfl)|((with_reducible apply wl_no);exact rfl;exact rfl;exact rfl;exact rfl)|((with_reducible apply wl_noU);exact rfl;exact rfl;exact rfl)
   refine wl_entry rfl hit6 hmap6 hen' hmapd.2.1.2.1 rfl ?_
   rw [hek]
   refine wl_extract rfl rfl rfl ?_
   repeat first|(with_reducible first|apply wc_seq|apply wc_region|apply wl_nil|apply qk_thn|apply wc_block|apply wc_skip|apply wc_ret|apply wc_exit|apply qk_thn_ret|apply qk_in_ret|apply qk_in|apply qk_thn_exit|apply qk_in_exit|apply qk_round_ret|apply qk_round_exit)|((with_reducible apply ws);exact rfl;exact rfl)|((with_reducible apply wl_yes);exact rfl;exact rfl;exact rfl)|((with_reducible apply wl_no);exact rfl;exact rfl;exact rfl;exact rfl)|((with_reducible apply wl_noU);exact rfl;exact rfl;exact rfl)
   refine wl_loadB rfl to_u32s rfl hb6 rfl ?_
   repeat first|(with_reducible first|apply wc_seq|apply wc_region|apply wl_nil|apply qk_thn|apply wc_block|apply wc_skip|apply wc_ret|apply wc_exit|apply qk_thn_ret|apply qk_in_ret|apply qk_in|apply qk_thn_exit|apply qk_in_exit|apply qk_round_ret|apply qk_round_exit)|((with_reducible apply ws);exact rfl;exact rfl)|((with_reducible apply wl_yes);exact rfl;exact rfl;exact rfl)|((with_reducible apply wl_no);exact rfl;exact rfl;exact rfl;exact rfl)|((with_reducible apply wl_noU);exact rfl;exact rfl;exact rfl)
   refine wl_app1 (v := .int .u32 (k : Int)) (cs := [.int .u32 (k : Int)]) (dv := dv) (xs := zs.map encU) (n := zs.length) rt_u32 rfl rfl rfl rfl rfl rfl rfl rfl hrow6 (by omega) (by simp only [many]; omega) (fun d7 w7 hrow7 hg7 => ?_)
   have hb7 := hb6.kept hg7.grown (fun h => hno5 h.symm)
   have hit7 : w7.heap[w3.heap.size]? = some (.mapIter (some r) clock (seen.push en.born) clock) := (hg7.grown.block _ (by omega) (fun h => hne5 h.symm)).trans hit6
   obtain ⟨a7, c7, hd7⟩ := Row.shape hrow7
   refine wl_storeB rfl rfl to_u32s (by rw [hd7]; rfl) hb7 rfl (fun w8 hb8 hg8 hs8 => ?_)
   have hno7 : d7.ownBlock ≠ some w1.heap.size := by
    intro h
    obtain ⟨cur, hcur⟩ := row_block hrow7 h
    have h2 := hb7
    simp only [Box, hcur, Option.some.injEq, Obj.cells.injEq] at h2
    exact ne_u32s h2.2.1.symm
   have hrow8 := Row.kept hrow7 hg8 (.inr hno7)
   have hit8 : w8.heap[w3.heap.size]? = some (.mapIter (some r) clock (seen.push en.born) clock) := (hg8.block _ (by have := hg7.grown.size; omega) (fun h => hib (by simpa using h.symm))).trans hit7
   have hge := Row.ge hrow5
   have hc8 : Chg (fun j => w.heap.size ≤ j) w w8 := ((hc5.trans (hc6.wide (fun j hj => by have : j = w3.heap.size := hj; omega))).trans
    (⟨hg7.grown.os, hg7.grown.tape, hg7.grown.output, hg7.grown.size, fun j hj hn => hg7.grown.block j hj (fun h => hn (hge j h.symm))⟩ : Chg (fun j => w.heap.size ≤ j) w6 w7)).trans ((Chg.grown hg8).wide (fun j hj => by have : j = w1.heap.size := hj; omega))
   repeat first|(with_reducible first|apply wc_seq|apply wc_region|apply wl_nil|apply qk_thn|apply wc_block|apply wc_skip|apply wc_ret|apply wc_exit|apply qk_thn_ret|apply qk_in_ret|apply qk_in|apply qk_thn_exit|apply qk_in_exit|apply qk_round_ret|apply qk_round_exit)|((with_reducible apply ws);exact rfl;exact rfl)|((with_reducible apply wl_yes);exact rfl;exact rfl;exact rfl)|((with_reducible apply wl_no);exact rfl;exact rfl;exact rfl;exact rfl)|((with_reducible apply wl_noU);exact rfl;exact rfl;exact rfl)
   refine qk_round (zs ++ [(k : Int)], d7, seen.push en.born, clock) ⟨rfl, rfl, rfl, rfl, trivial⟩ ⟨hb8, ?_, hit8, Nat.le_refl _, ?_, hc8⟩ ?_
   ·simpa using hrow8
   ·refine List.Perm.trans ?_ hperm5
    simp only [List.map_append, List.map_cons, List.map_nil, List.append_assoc, List.cons_append, List.nil_append]
    refine List.Perm.append_left _ ?_
    have := (hpush.map (·.key)).symm
    simpa [hek, encU] using this
   ·have h2 := hpush.length_eq
    simp only [Array.length_toList, List.length_cons] at h2
    show (leftOf es (seen.push en.born)).size < (leftOf es seen).size
    omega
theorem teachOk (tlen : Nat) (ver : Int) : TeachOk Tryz.prog 5 (kt tlen 96 ver) := by
 intro _ kvs b off v ys d w B xs hs hb hc hr ho hB hl
 refine enter (vs := [.pointer (some ⟨b, off, none⟩), d]) Tryz.func96 rfl Tryz.ntmps96 rfl ?_
 obtain ⟨da, dc, hd⟩ := ho.shape
 repeat first|(with_reducible first|apply wc_seq|apply wc_region|apply wl_nil|apply qk_thn|apply wc_block|apply wc_skip|apply wc_ret|apply wc_exit|apply qk_thn_ret|apply qk_in_ret|apply qk_in|apply qk_thn_exit|apply qk_in_exit|apply qk_round_ret|apply qk_round_exit)|((with_reducible apply ws);exact rfl;exact rfl)|((with_reducible apply wl_yes);exact rfl;exact rfl;exact rfl)|((with_reducible apply wl_no);exact rfl;exact rfl;exact rfl;exact rfl)|((with_reducible apply wl_noU);exact rfl;exact rfl;exact rfl)
 refine wl_box1 (cs := [d]) rfl (by rw [hd]; rfl) rfl (fun w1 hb1 hg1 hs1 => ?_)
 have hw1 : Below w.heap.size w w1 := below_of hg1 (Nat.le_refl _) (by simp)
 have hc1 : w1.cell? ⟨b, off, none⟩ = some v := by rw [← hc]; simp only [World.cell?, hw1.block b (by omega)]
 have hr1 : Rep (Lo B) w1 (.mp kvs) [v] := Rep.below hr (hw1.mono hB) (Nat.le_refl _)
 have ho1 := Own.under ho hw1
 repeat first|(with_reducible first|apply wc_seq|apply wc_region|apply wl_nil|apply qk_thn|apply wc_block|apply wc_skip|apply wc_ret|apply wc_exit|apply qk_thn_ret|apply qk_in_ret|apply qk_in|apply qk_thn_exit|apply qk_in_exit|apply qk_round_ret|apply qk_round_exit)|((with_reducible apply ws);exact rfl;exact rfl)|((with_reducible apply wl_yes);exact rfl;exact rfl;exact rfl)|((with_reducible apply wl_no);exact rfl;exact rfl;exact rfl;exact rfl)|((with_reducible apply wl_noU);exact rfl;exact rfl;exact rfl)
 refine wl_makeFunc (caps := [.tmp 3]) rfl rfl ?_
 refine wl_call rfl (by kernel_rfl) rfl ((fn_each w1 w.heap.size B b off kvs v d xs ys _ hs hb hc1 hr1 hb1 hB ho1 (by omega) (fun e => by have := ho.lt _ e; omega) hl).mono ?_)
 rintro en w2 ⟨rfl, d2, hb2, ho2, hG2⟩
 refine ⟨_, rfl, ?_⟩
 repeat first|(with_reducible first|apply wc_seq|apply wc_region|apply wl_nil|apply qk_thn|apply wc_block|apply wc_skip|apply wc_ret|apply wc_exit|apply qk_thn_ret|apply qk_in_ret|apply qk_in|apply qk_thn_exit|apply qk_in_exit|apply qk_round_ret|apply qk_round_exit)|((with_reducible apply ws);exact rfl;exact rfl)|((with_reducible apply wl_yes);exact rfl;exact rfl;exact rfl)|((with_reducible apply wl_no);exact rfl;exact rfl;exact rfl;exact rfl)|((with_reducible apply wl_noU);exact rfl;exact rfl;exact rfl)
 refine wl_loadB rfl to_bytes rfl hb2 rfl ?_
 repeat first|(with_reducible first|apply wc_seq|apply wc_region|apply wl_nil|apply qk_thn|apply wc_block|apply wc_skip|apply wc_ret|apply wc_exit|apply qk_thn_ret|apply qk_in_ret|apply qk_in|apply qk_thn_exit|apply qk_in_exit|apply qk_round_ret|apply qk_round_exit)|((with_reducible apply ws);exact rfl;exact rfl)|((with_reducible apply wl_yes);exact rfl;exact rfl;exact rfl)|((with_reducible apply wl_no);exact rfl;exact rfl;exact rfl;exact rfl)|((with_reducible apply wl_noU);exact rfl;exact rfl;exact rfl)
 refine qk_ret1 rfl rfl ⟨d2, rfl, ho2, ⟨⟨hG2.chg.os.trans hw1.os, hG2.chg.tape.trans hw1.tape, hG2.chg.output.trans hw1.output, by have := hG2.chg.size; omega, fun k hk hn => ?_⟩, ?_⟩⟩
 ·rw [hG2.chg.block k (by omega) (fun h => by
   rcases h with h | h
   ·omega
   ·exact hn h.symm)]
  exact hw1.block k hk
 ·rcases hG2.fresh with h | h
  ·exact .inl h
  ·exact .inr (fun q hq => by have := h q hq; omega)
end Go.Proofs.YtlmnaffhadeolaaGreatDoor.Rdk

namespace Go.Proofs.YtlmnaffhadeolaaGreatDoor
open Go Go.RowKit
def tmpOf (r : Array ResultVar) : Option Nat := match r with
 | ⟨[.tmp u]⟩ => some u
 | _ => none
theorem tmpOf_out {r : Array ResultVar} {t : Nat} (h : tmpOf r = some t) : r = #[.tmp t] := by
 unfold tmpOf at h
 split at h
 ·cases h; rfl
 ·cases h
def appRun (P : Program) (K : Kt) (u8 f : Nat) (sh : List Ck) : Option (Option Sy × List Out × Bool) := match P.funcs[f]? with
 | some fn => (match fn.body, tmpOf fn.results with
  | some c, some r => bif isFn P f && Nat.ble 2 fn.ntmps then (match runS P K fn.ntmps u8 4000 [sh] [] ([(0, .at_ 0 0)], [1]) c with
   | some x => some (evS x.1 (.tmp r), x.2.1, x.2.2)
   | none => none) else none
  | _, _ => none)
 | none => none
theorem app_ok {P : Program} {K : Kt} {u8 f : Nat} {sh : List Ck} {os : List Out} (hT : TlenOk P K) (hK : FnsOk P u8 K) (hE : TeachOk P u8 K) (h : appRun P K u8 f sh = some (some .dst, os, true)) {B b : Nat} {w : World} {cs : List Value} {ds : List D} {d : Value} {xs ys : List UInt8}
  (hit : ItOk B w ⟨b, 0, 0, cs, ds⟩) (hsh : shDs ds = sh) (hver : cs[0]? = some K.ver) (ho : Own w B u8 d xs) (hB : B ≤ w.heap.size) (hs : semL [ds] os = some ys) (hl : xs.length + ys.length ≤ lim) :
  isFn P f = true ∧ Calls P f #[.pointer (some ⟨b, 0, none⟩), d] w fun e w' => ∃ d', e = .returned d' ∧ Own w' B u8 d' (xs ++ ys) ∧ Grew w w' d d' := by
 unfold appRun at h
 split at h
 ·rename_i fn hfn
  split at h
  ·rename_i c r hbody hres
   cases hc : isFn P f && Nat.ble 2 fn.ntmps with
   | false => rw [hc] at h; cases h
   | true =>
    rw [hc] at h
    simp only [cond_true] at h
    rw [Bool.and_eq_true] at hc
    have hn : 2 ≤ fn.ntmps := Nat.le_of_ble_eq_true hc.2
    split at h
    ·rename_i x hx
     simp only [Option.some.injEq, Prod.mk.injEq] at h
     obtain ⟨h1, h2, h3⟩ := h
     refine ⟨hc.1, calls_of_wp hfn hbody ?_⟩
     have hrun := runS_ok (B := B) hT hK hE _ _ _ _ _ x.1 x.2.1 x.2.2 (by rw [hx])
     refine hrun [⟨b, 0, 0, cs, ds⟩] _ w d xs ys _ (by simp) ⟨?_, ?_, ?_, ?_⟩ (fun q hq => by cases hq) ho hB (by rw [h2]; simpa using hs) hl ?_
     ·refine ⟨by simp; omega, rfl, fun t s e => ?_, fun t e => ?_⟩
      ·simp only [lkS] at e
       cases hb : Nat.beq 0 t with
       | false => rw [hb] at e; cases e
       | true =>
        rw [hb] at e
        have := beq_out hb; subst this
        simp only [cond_true, Option.some.injEq] at e
        subst e
        simp only [den, gt, Array.getD_eq_getD_getElem?]
        rw [Array.getElem?_append_left (by simp)]; rfl
      ·have : 1 = t := by simpa [memN] using e
       subst this
       simp only [gt, Array.getD_eq_getD_getElem?]
       rw [Array.getElem?_append_left (by simp)]; rfl
     ·intro it hi; simp at hi; subst hi; exact hit
     ·refine ⟨rfl, fun k x hx => ?_⟩
      cases k with
      | zero => simp at hx; subst hx; simp [hsh]
      | succ k => simp at hx
     ·intro it hi; simp at hi; subst hi; exact hver
     ·intro a' w' d' H' ho' hg'
      rw [h3]
      have hd := (H'.kn.eval h1).1 rfl
      refine ⟨H'.kn.defers, d', ?_, d', rfl, ho', hg'⟩
      rw [results_tmp (tmpOf_out hres)]
      rw [eval_tmp] at hd
      simp only [gt] at hd
      rw [hd]
    ·cases h
  ·cases h
 ·cases h
end Go.Proofs.YtlmnaffhadeolaaGreatDoor

namespace Go.Proofs.YtlmnaffhadeolaaGreatDoor
open Go Go.RowKit
end Go.Proofs.YtlmnaffhadeolaaGreatDoor

namespace Go.Proofs.YtlmnaffhadeolaaGreatDoor.BProduceRequest
open Go Go.RowKit
def sProduceRequestTopicPartition : List Fld := [.mk 3 0 (-1) (-1) (-1) 0 0 [], .mk 9 0 (-1) 0 (-1) 0 0 []]
def sProduceRequestTopic : List Fld := [.mk 8 0 12 (-1) (-1) 0 0 [], .mk 7 13 (-1) (-1) (-1) 0 0 [], .mk 11 0 (-1) (-1) (-1) 0 10 sProduceRequestTopicPartition]
def m : Msg := ⟨[.mk 8 3 (-1) 3 (-1) 0 0 [], .mk 2 0 (-1) (-1) (-1) 0 0 [], .mk 3 0 (-1) (-1) (-1) 15000 0 [], .mk 11 0 (-1) (-1) (-1) 0 10 sProduceRequestTopic], 9⟩
theorem m_ok : fsok m.fields = true := by decide
def most : Nat := 13
def tbl : Tbl := ⟨[(30, 0, 0), (30, 1, 1), (119, 0, 0)], [22]⟩
theorem tbl_ok : tbl.ok Tryz.prog = true := by kernel_rfl
theorem ws {ops : Array Oper} {Q : Exit → Act → World → Prop} {N : Nat} {rest : List Oper} {L : Sl} {w : World} {d : Nat} {ty : TypeId} {pos : String} {aft : Array Edge} {o : Op} {v : Value}
  (hs : stepOp tbl L o = some v) (hd : Nat.blt d N = true) (h : WL rest Tryz.prog ops Q N ((d, v) :: L) w) : WL (⟨some d, o, ty, pos, aft, none⟩ :: rest) Tryz.prog ops Q N L w := wl_step tbl tbl_ok hs hd h
theorem zv_msg (w : World) : (zeroValue 30).run Tryz.prog w = .ok (.agg #[.slice none 0 0, .int .i64 0]) w := by kernel_rfl
theorem rt_flds : rowTy Tryz.prog 28 55 8 = true := by kernel_rfl
theorem to_i16 : tyOne Tryz.prog 57 = true := by kernel_rfl
section
set_option maxRecDepth 100000
set_option maxHeartbeats 4000000
theorem fn_tsProduceRequestTopicPartition (w : World) : Fn 79 [] w fun v w' => Rep (Frs w.heap.size w'.heap.size) w' (.sq (sProduceRequestTopicPartition.map fldD)) [v] := by
 refine enter Tryz.func79 rfl Tryz.ntmps79 rfl ?_
 repeat first|(with_reducible first|apply wc_seq|apply wc_region|apply wl_nil|apply qk_thn|apply wc_block|apply wc_skip|apply wc_ret|apply wc_exit|apply qk_thn_ret|apply qk_in_ret|apply qk_in|apply qk_thn_exit|apply qk_in_exit|apply qk_round_ret|apply qk_round_exit)|((with_reducible apply ws);exact rfl;exact rfl)|((with_reducible apply wl_yes);exact rfl;exact rfl;exact rfl)|((with_reducible apply wl_no);exact rfl;exact rfl;exact rfl;exact rfl)|((with_reducible apply wl_noU);exact rfl;exact rfl;exact rfl)
 have hW : Below w.heap.size w w := ⟨rfl, rfl, rfl, Nat.le_refl _, fun _ _ => rfl⟩
 refine wl_build rfl (cs := [.int .i64 3, .int .i64 0, .int .i64 (-1), .int .i64 (-1), .int .i64 (-1), .int .i64 0, .int .i64 0, .slice none 0 0]) (by kernel_rfl) rfl ?_
 refine wl_build rfl (cs := [.int .i64 9, .int .i64 0, .int .i64 (-1), .int .i64 0, .int .i64 (-1), .int .i64 0, .int .i64 0, .slice none 0 0]) (by kernel_rfl) rfl ?_
 refine wl_sliceN [[.int .i64 3, .int .i64 0, .int .i64 (-1), .int .i64 (-1), .int .i64 (-1), .int .i64 0, .int .i64 0, .slice none 0 0], [.int .i64 9, .int .i64 0, .int .i64 (-1), .int .i64 0, .int .i64 (-1), .int .i64 0, .int .i64 0, .slice none 0 0]] rt_flds rfl rfl (by simp) rfl rfl rfl (fun w2 hbS hgS hsS => ?_)
 have hs_2 := below_of hgS (Nat.le_refl _) (by simp)
 have hz := hW.size
 replace hW := hW.trans (hs_2.mono hW.size)
 have hfin : Rep (Frs w.heap.size w2.heap.size) w2 (.sq (sProduceRequestTopicPartition.map fldD)) [.slice (some ⟨w.heap.size, 0, none⟩) 2 2] := by
  simp only [Rep]
  exact ⟨_, 2, rfl, Nat.le_refl _, .inr ⟨w.heap.size, 0, _, rfl, ⟨hz, hbS.lt⟩, hbS.cells, (reps_fcons (rep_fld0 _ _ (.mk 3 0 (-1) (-1) (-1) 0 0 []) rfl) (reps_fcons (rep_fld0 _ _ (.mk 9 0 (-1) 0 (-1) 0 0 []) rfl) reps_fnil))⟩⟩
 repeat first|(with_reducible first|apply wc_seq|apply wc_region|apply wl_nil|apply qk_thn|apply wc_block|apply wc_skip|apply wc_ret|apply wc_exit|apply qk_thn_ret|apply qk_in_ret|apply qk_in|apply qk_thn_exit|apply qk_in_exit|apply qk_round_ret|apply qk_round_exit)|((with_reducible apply ws);exact rfl;exact rfl)|((with_reducible apply wl_yes);exact rfl;exact rfl;exact rfl)|((with_reducible apply wl_no);exact rfl;exact rfl;exact rfl;exact rfl)|((with_reducible apply wl_noU);exact rfl;exact rfl;exact rfl)
 exact qk_ret1 rfl rfl ⟨_, rfl, hW, hfin⟩
theorem fn_tsProduceRequestTopic (w : World) : Fn 48 [] w fun v w' => Rep (Frs w.heap.size w'.heap.size) w' (.sq (sProduceRequestTopic.map fldD)) [v] := by
 refine enter Tryz.func48 rfl Tryz.ntmps48 rfl ?_
 repeat first|(with_reducible first|apply wc_seq|apply wc_region|apply wl_nil|apply qk_thn|apply wc_block|apply wc_skip|apply wc_ret|apply wc_exit|apply qk_thn_ret|apply qk_in_ret|apply qk_in|apply qk_thn_exit|apply qk_in_exit|apply qk_round_ret|apply qk_round_exit)|((with_reducible apply ws);exact rfl;exact rfl)|((with_reducible apply wl_yes);exact rfl;exact rfl;exact rfl)|((with_reducible apply wl_no);exact rfl;exact rfl;exact rfl;exact rfl)|((with_reducible apply wl_noU);exact rfl;exact rfl;exact rfl)
 have hW : Below w.heap.size w w := ⟨rfl, rfl, rfl, Nat.le_refl _, fun _ _ => rfl⟩
 refine wl_build rfl (cs := [.int .i64 8, .int .i64 0, .int .i64 12, .int .i64 (-1), .int .i64 (-1), .int .i64 0, .int .i64 0, .slice none 0 0]) (by kernel_rfl) rfl ?_
 refine wl_build rfl (cs := [.int .i64 7, .int .i64 13, .int .i64 (-1), .int .i64 (-1), .int .i64 (-1), .int .i64 0, .int .i64 0, .slice none 0 0]) (by kernel_rfl) rfl ?_
 refine wl_call rfl (by kernel_rfl) rfl ((fn_tsProduceRequestTopicPartition w).mono ?_)
 rintro e w2 ⟨sv, rfl, hs_2, hsq2⟩
 obtain ⟨a2, c2, rfl⟩ := rep_sqshape hsq2
 refine ⟨_, rfl, ?_⟩
 replace hsq2 := rep_frw hsq2 hW.size
 replace hW := hW.trans (hs_2.mono hW.size)
 refine wl_build rfl (cs := [.int .i64 11, .int .i64 0, .int .i64 (-1), .int .i64 (-1), .int .i64 (-1), .int .i64 0, .int .i64 10, .slice a2 (sProduceRequestTopicPartition.map fldD).length c2]) (by kernel_rfl) rfl ?_
 refine wl_sliceN [[.int .i64 8, .int .i64 0, .int .i64 12, .int .i64 (-1), .int .i64 (-1), .int .i64 0, .int .i64 0, .slice none 0 0], [.int .i64 7, .int .i64 13, .int .i64 (-1), .int .i64 (-1), .int .i64 (-1), .int .i64 0, .int .i64 0, .slice none 0 0], [.int .i64 11, .int .i64 0, .int .i64 (-1), .int .i64 (-1), .int .i64 (-1), .int .i64 0, .int .i64 10, .slice a2 (sProduceRequestTopicPartition.map fldD).length c2]] rt_flds rfl rfl (by simp) rfl rfl rfl (fun w3 hbS hgS hsS => ?_)
 have hs_3 := below_of hgS (Nat.le_refl _) (by simp)
 have hz := hW.size
 replace hsq2 := rep_fr hsq2 hs_3 (Nat.le_refl _)
 replace hW := hW.trans (hs_3.mono hW.size)
 have hfin : Rep (Frs w.heap.size w3.heap.size) w3 (.sq (sProduceRequestTopic.map fldD)) [.slice (some ⟨w2.heap.size, 0, none⟩) 3 3] := by
  simp only [Rep]
  exact ⟨_, 3, rfl, Nat.le_refl _, .inr ⟨w2.heap.size, 0, _, rfl, ⟨hz, hbS.lt⟩, hbS.cells, (reps_fcons (rep_fld0 _ _ (.mk 8 0 12 (-1) (-1) 0 0 []) rfl) (reps_fcons (rep_fld0 _ _ (.mk 7 13 (-1) (-1) (-1) 0 0 []) rfl) (reps_fcons (rep_fldS hsq2) reps_fnil)))⟩⟩
 repeat first|(with_reducible first|apply wc_seq|apply wc_region|apply wl_nil|apply qk_thn|apply wc_block|apply wc_skip|apply wc_ret|apply wc_exit|apply qk_thn_ret|apply qk_in_ret|apply qk_in|apply qk_thn_exit|apply qk_in_exit|apply qk_round_ret|apply qk_round_exit)|((with_reducible apply ws);exact rfl;exact rfl)|((with_reducible apply wl_yes);exact rfl;exact rfl;exact rfl)|((with_reducible apply wl_no);exact rfl;exact rfl;exact rfl;exact rfl)|((with_reducible apply wl_noU);exact rfl;exact rfl;exact rfl)
 exact qk_ret1 rfl rfl ⟨_, rfl, hW, hfin⟩
theorem fn_table (w : World) : Fn 19 [] w fun v w' => ∃ fv, v = .agg #[fv, .int .i64 m.flex] ∧ Sq w'.heap.size w' fv (m.fields.map fldD) := by
 refine enter Tryz.func19 rfl Tryz.ntmps19 rfl ?_
 repeat first|(with_reducible first|apply wc_seq|apply wc_region|apply wl_nil|apply qk_thn|apply wc_block|apply wc_skip|apply wc_ret|apply wc_exit|apply qk_thn_ret|apply qk_in_ret|apply qk_in|apply qk_thn_exit|apply qk_in_exit|apply qk_round_ret|apply qk_round_exit)|((with_reducible apply ws);exact rfl;exact rfl)|((with_reducible apply wl_yes);exact rfl;exact rfl;exact rfl)|((with_reducible apply wl_no);exact rfl;exact rfl;exact rfl;exact rfl)|((with_reducible apply wl_noU);exact rfl;exact rfl;exact rfl)
 refine wl_alloc zv_msg rfl rfl (fun w1 hb1 hg1 hs1 => ?_)
 have hs_1 := below_of hg1 (Nat.le_refl _) (by simp)
 repeat first|(with_reducible first|apply wc_seq|apply wc_region|apply wl_nil|apply qk_thn|apply wc_block|apply wc_skip|apply wc_ret|apply wc_exit|apply qk_thn_ret|apply qk_in_ret|apply qk_in|apply qk_thn_exit|apply qk_in_exit|apply qk_round_ret|apply qk_round_exit)|((with_reducible apply ws);exact rfl;exact rfl)|((with_reducible apply wl_yes);exact rfl;exact rfl;exact rfl)|((with_reducible apply wl_no);exact rfl;exact rfl;exact rfl;exact rfl)|((with_reducible apply wl_noU);exact rfl;exact rfl;exact rfl)
 have hW : Below w1.heap.size w1 w1 := ⟨rfl, rfl, rfl, Nat.le_refl _, fun _ _ => rfl⟩
 refine wl_build rfl (cs := [.int .i64 8, .int .i64 3, .int .i64 (-1), .int .i64 3, .int .i64 (-1), .int .i64 0, .int .i64 0, .slice none 0 0]) (by kernel_rfl) rfl ?_
 refine wl_build rfl (cs := [.int .i64 2, .int .i64 0, .int .i64 (-1), .int .i64 (-1), .int .i64 (-1), .int .i64 0, .int .i64 0, .slice none 0 0]) (by kernel_rfl) rfl ?_
 refine wl_build rfl (cs := [.int .i64 3, .int .i64 0, .int .i64 (-1), .int .i64 (-1), .int .i64 (-1), .int .i64 15000, .int .i64 0, .slice none 0 0]) (by kernel_rfl) rfl ?_
 refine wl_call rfl (by kernel_rfl) rfl ((fn_tsProduceRequestTopic w1).mono ?_)
 rintro e w2 ⟨sv, rfl, hs_2, hsq3⟩
 obtain ⟨a3, c3, rfl⟩ := rep_sqshape hsq3
 refine ⟨_, rfl, ?_⟩
 replace hsq3 := rep_frw hsq3 hW.size
 replace hW := hW.trans (hs_2.mono hW.size)
 replace hb1 := hb1.below hs_2 hb1.lt
 refine wl_build rfl (cs := [.int .i64 11, .int .i64 0, .int .i64 (-1), .int .i64 (-1), .int .i64 (-1), .int .i64 0, .int .i64 10, .slice a3 (sProduceRequestTopic.map fldD).length c3]) (by kernel_rfl) rfl ?_
 refine wl_sliceN [[.int .i64 8, .int .i64 3, .int .i64 (-1), .int .i64 3, .int .i64 (-1), .int .i64 0, .int .i64 0, .slice none 0 0], [.int .i64 2, .int .i64 0, .int .i64 (-1), .int .i64 (-1), .int .i64 (-1), .int .i64 0, .int .i64 0, .slice none 0 0], [.int .i64 3, .int .i64 0, .int .i64 (-1), .int .i64 (-1), .int .i64 (-1), .int .i64 15000, .int .i64 0, .slice none 0 0], [.int .i64 11, .int .i64 0, .int .i64 (-1), .int .i64 (-1), .int .i64 (-1), .int .i64 0, .int .i64 10, .slice a3 (sProduceRequestTopic.map fldD).length c3]] rt_flds rfl rfl (by simp) rfl rfl rfl (fun w3 hbS hgS hsS => ?_)
 have hs_3 := below_of hgS (Nat.le_refl _) (by simp)
 have hz := hW.size
 replace hsq3 := rep_fr hsq3 hs_3 (Nat.le_refl _)
 replace hW := hW.trans (hs_3.mono hW.size)
 replace hb1 := hb1.below hs_3 hb1.lt
 have hfin : Rep (Frs w1.heap.size w3.heap.size) w3 (.sq (m.fields.map fldD)) [.slice (some ⟨w2.heap.size, 0, none⟩) 4 4] := by
  simp only [Rep]
  exact ⟨_, 4, rfl, Nat.le_refl _, .inr ⟨w2.heap.size, 0, _, rfl, ⟨hz, hbS.lt⟩, hbS.cells, (reps_fcons (rep_fld0 _ _ (.mk 8 3 (-1) 3 (-1) 0 0 []) rfl) (reps_fcons (rep_fld0 _ _ (.mk 2 0 (-1) (-1) (-1) 0 0 []) rfl) (reps_fcons (rep_fld0 _ _ (.mk 3 0 (-1) (-1) (-1) 15000 0 []) rfl) (reps_fcons (rep_fldS hsq3) reps_fnil))))⟩⟩
 refine wl_build rfl (cs := [.slice (some ⟨w2.heap.size, 0, none⟩) 4 4, .int .i64 9]) (by kernel_rfl) rfl ?_
 refine wl_storeBAgg (vs := [.slice (some ⟨w2.heap.size, 0, none⟩) 4 4, .int .i64 9]) rfl rfl rfl tz_msg rfl hb1 rfl (fun wz hbz hgz hsz => ?_)
 repeat first|(with_reducible first|apply wc_seq|apply wc_region|apply wl_nil|apply qk_thn|apply wc_block|apply wc_skip|apply wc_ret|apply wc_exit|apply qk_thn_ret|apply qk_in_ret|apply qk_in|apply qk_thn_exit|apply qk_in_exit|apply qk_round_ret|apply qk_round_exit)|((with_reducible apply ws);exact rfl;exact rfl)|((with_reducible apply wl_yes);exact rfl;exact rfl;exact rfl)|((with_reducible apply wl_no);exact rfl;exact rfl;exact rfl;exact rfl)|((with_reducible apply wl_noU);exact rfl;exact rfl;exact rfl)
 have hW0 := hs_1.trans (hW.mono hs_1.size)
 refine qk_retCell (cs := [.slice (some ⟨w2.heap.size, 0, none⟩) 4 4, .int .i64 9]) rfl rfl ta_msg hbz ⟨_, rfl, hW0.trans (below_of hgz hW0.size (by intro q hq; simp at hq; omega)), _, rfl, ?_⟩
 exact Rep.mono (fun b hb => ⟨by have := hb.2; simp only [Lo]; omega, hgz.block b hb.2 (by have := hb.1; simp; omega)⟩) _ _ hfin
noncomputable def z0 : List Value := match Tryz.prog.info? 119 with | some i => (match i.zero with | some z => z.cells.toList | none => []) | none => []
noncomputable def d0 : List Value := match (defF Tryz.prog 78).bind fun l => setAll l z0 with | some cs => cs | none => []
noncomputable def cs0 (ver : Int) : List Value := .int .i16 ver :: d0.drop 1
theorem d0_eq : (defF Tryz.prog 78).bind (fun l => setAll l z0) = some d0 := by kernel_rfl
theorem d0_hd : d0 = .int .i16 0 :: d0.drop 1 := by kernel_rfl
theorem zv (w : World) : (zeroValue 119).run Tryz.prog w = .ok (.agg z0.toArray) w := by kernel_rfl
theorem fn_new (w : World) : Calls Tryz.prog 46 #[] w fun e w' => e = .returned (.pointer (some ⟨w.heap.size, 0, none⟩)) ∧ Box w' w.heap.size d0 119 ∧ Below w.heap.size w w' := by
 obtain ⟨l, hl, hset⟩ := Option.bind_eq_some_iff.1 d0_eq
 refine enter (vs := []) Tryz.func46 rfl Tryz.ntmps46 rfl ?_
 repeat first|(with_reducible first|apply wc_seq|apply wc_region|apply wl_nil|apply qk_thn|apply wc_block|apply wc_skip|apply wc_ret|apply wc_exit|apply qk_thn_ret|apply qk_in_ret|apply qk_in|apply qk_thn_exit|apply qk_in_exit|apply qk_round_ret|apply qk_round_exit)|((with_reducible apply ws);exact rfl;exact rfl)|((with_reducible apply wl_yes);exact rfl;exact rfl;exact rfl)|((with_reducible apply wl_no);exact rfl;exact rfl;exact rfl;exact rfl)|((with_reducible apply wl_noU);exact rfl;exact rfl;exact rfl)
 refine wl_alloc zv rfl rfl (fun w1 hb1 hg1 hs1 => ?_)
 repeat first|(with_reducible first|apply wc_seq|apply wc_region|apply wl_nil|apply qk_thn|apply wc_block|apply wc_skip|apply wc_ret|apply wc_exit|apply qk_thn_ret|apply qk_in_ret|apply qk_in|apply qk_thn_exit|apply qk_in_exit|apply qk_round_ret|apply qk_round_exit)|((with_reducible apply ws);exact rfl;exact rfl)|((with_reducible apply wl_yes);exact rfl;exact rfl;exact rfl)|((with_reducible apply wl_no);exact rfl;exact rfl;exact rfl;exact rfl)|((with_reducible apply wl_noU);exact rfl;exact rfl;exact rfl)
 have hdef := defF_ok (w := w1) hl (b := w.heap.size) (pre := []) (cs := z0) (post := []) (cs' := d0) (e := 119) (by simpa using hb1) hset
 refine wl_call rfl hdef.1 rfl (hdef.2.mono ?_)
 rintro e w2 ⟨rfl, hb2, hc2⟩
 refine ⟨_, rfl, ?_⟩
 repeat first|(with_reducible first|apply wc_seq|apply wc_region|apply wl_nil|apply qk_thn|apply wc_block|apply wc_skip|apply wc_ret|apply wc_exit|apply qk_thn_ret|apply qk_in_ret|apply qk_in|apply qk_thn_exit|apply qk_in_exit|apply qk_round_ret|apply qk_round_exit)|((with_reducible apply ws);exact rfl;exact rfl)|((with_reducible apply wl_yes);exact rfl;exact rfl;exact rfl)|((with_reducible apply wl_no);exact rfl;exact rfl;exact rfl;exact rfl)|((with_reducible apply wl_noU);exact rfl;exact rfl;exact rfl)
 exact qk_ret1 rfl rfl ⟨rfl, by simpa using hb2, (below_of hg1 (Nat.le_refl _) (by simp)).trans (chg_below hc2 (fun j hj h => by have : j = w.heap.size := h; omega) (by omega))⟩
theorem fn_max (w : World) : Calls Tryz.prog 18 #[] w fun e w' => e = .returned (.int .i64 (most : Int)) ∧ Below w.heap.size w w' := by
 refine enter (vs := []) Tryz.func18 rfl Tryz.ntmps18 rfl ?_
 repeat first|(with_reducible first|apply wc_seq|apply wc_region|apply wl_nil|apply qk_thn|apply wc_block|apply wc_skip|apply wc_ret|apply wc_exit|apply qk_thn_ret|apply qk_in_ret|apply qk_in|apply qk_thn_exit|apply qk_in_exit|apply qk_round_ret|apply qk_round_exit)|((with_reducible apply ws);exact rfl;exact rfl)|((with_reducible apply wl_yes);exact rfl;exact rfl;exact rfl)|((with_reducible apply wl_no);exact rfl;exact rfl;exact rfl;exact rfl)|((with_reducible apply wl_noU);exact rfl;exact rfl;exact rfl)
 refine wl_call rfl (by kernel_rfl) rfl ((fn_new w).mono ?_)
 rintro e w1 ⟨rfl, hb1, hw1⟩
 refine ⟨_, rfl, ?_⟩
 repeat first|(with_reducible first|apply wc_seq|apply wc_region|apply wl_nil|apply qk_thn|apply wc_block|apply wc_skip|apply wc_ret|apply wc_exit|apply qk_thn_ret|apply qk_in_ret|apply qk_in|apply qk_thn_exit|apply qk_in_exit|apply qk_round_ret|apply qk_round_exit)|((with_reducible apply ws);exact rfl;exact rfl)|((with_reducible apply wl_yes);exact rfl;exact rfl;exact rfl)|((with_reducible apply wl_no);exact rfl;exact rfl;exact rfl;exact rfl)|((with_reducible apply wl_noU);exact rfl;exact rfl;exact rfl)
 have hmax : Calls Tryz.prog 47 #[.pointer (some ⟨w.heap.size, 0, none⟩)] w1 fun e w' => e = .returned (.int .i16 (most : Int)) ∧ w' = w1 := by
  refine enter (vs := [.pointer (some ⟨w.heap.size, 0, none⟩)]) Tryz.func47 rfl Tryz.ntmps47 rfl ?_
  repeat first|(with_reducible first|apply wc_seq|apply wc_region|apply wl_nil|apply qk_thn|apply wc_block|apply wc_skip|apply wc_ret|apply wc_exit|apply qk_thn_ret|apply qk_in_ret|apply qk_in|apply qk_thn_exit|apply qk_in_exit|apply qk_round_ret|apply qk_round_exit)|((with_reducible apply ws);exact rfl;exact rfl)|((with_reducible apply wl_yes);exact rfl;exact rfl;exact rfl)|((with_reducible apply wl_no);exact rfl;exact rfl;exact rfl;exact rfl)|((with_reducible apply wl_noU);exact rfl;exact rfl;exact rfl)
  exact qk_ret1 rfl rfl ⟨rfl, rfl⟩
 refine wl_call rfl (by kernel_rfl) rfl ((hmax).mono ?_)
 rintro e w2 ⟨rfl, rfl⟩
 refine ⟨_, rfl, ?_⟩
 refine wl_conv .i64 rfl ti_i16 ti_i64 rfl (r := (most : Int)) rfl ?_
 repeat first|(with_reducible first|apply wc_seq|apply wc_region|apply wl_nil|apply qk_thn|apply wc_block|apply wc_skip|apply wc_ret|apply wc_exit|apply qk_thn_ret|apply qk_in_ret|apply qk_in|apply qk_thn_exit|apply qk_in_exit|apply qk_round_ret|apply qk_round_exit)|((with_reducible apply ws);exact rfl;exact rfl)|((with_reducible apply wl_yes);exact rfl;exact rfl;exact rfl)|((with_reducible apply wl_no);exact rfl;exact rfl;exact rfl;exact rfl)|((with_reducible apply wl_noU);exact rfl;exact rfl;exact rfl)
 exact qk_ret1 rfl rfl ⟨rfl, hw1⟩
theorem fn_set (w : World) (b : Nat) (x : Value) (r : List Value) (ver : Int) (hb : Box w b (x :: r) 119) : Calls Tryz.prog 50 #[.pointer (some ⟨b, 0, none⟩), .int .i16 ver] w fun e w' => e = .returned (.tuple #[]) ∧ Box w' b (.int .i16 ver :: r) 119 ∧ w.grownBy w' (some b) := by
 refine enter (vs := [.pointer (some ⟨b, 0, none⟩), .int .i16 ver]) Tryz.func50 rfl Tryz.ntmps50 rfl ?_
 repeat first|(with_reducible first|apply wc_seq|apply wc_region|apply wl_nil|apply qk_thn|apply wc_block|apply wc_skip|apply wc_ret|apply wc_exit|apply qk_thn_ret|apply qk_in_ret|apply qk_in|apply qk_thn_exit|apply qk_in_exit|apply qk_round_ret|apply qk_round_exit)|((with_reducible apply ws);exact rfl;exact rfl)|((with_reducible apply wl_yes);exact rfl;exact rfl;exact rfl)|((with_reducible apply wl_no);exact rfl;exact rfl;exact rfl;exact rfl)|((with_reducible apply wl_noU);exact rfl;exact rfl;exact rfl)
 refine wl_storeB (i := 0) rfl rfl to_i16 rfl hb rfl (fun w1 hb1 hg1 _ => ?_)
 exact wl_nil (qk_end0 rfl ⟨rfl, hb1, hg1⟩)
theorem rd_all : (List.range (most + 1)).all (fun v => readOk Tryz.prog Rdk.kr 82 (v : Int) true (m.flexible (v : Int)) m.fields (cs0 (v : Int)) && tabFs (v : Int) m.fields && lateFs (v : Int) m.fields) = true := by kernel_rfl
theorem rd (v : Nat) (h : v ≤ most) : readOk Tryz.prog Rdk.kr 82 (v : Int) true (m.flexible (v : Int)) m.fields (cs0 (v : Int)) = true ∧ tabFs (v : Int) m.fields = true ∧ lateFs (v : Int) m.fields = true := by
 have := List.all_eq_true.1 rd_all v (List.mem_range.2 (by omega))
 simp only [Bool.and_eq_true] at this
 exact ⟨this.1.1, this.1.2, this.2⟩
theorem ap : ∀ v : Nat, v ≤ most → appRun Tryz.prog (kt 95 96 (v : Int)) 5 52 (.int .i16 :: shP true m.fields) = some (some .dst, exP (v : Int) true (m.flexible (v : Int)) 1 0 1 m.fields, true)
 | 0, _ => by kernel_rfl
 | 1, _ => by kernel_rfl
 | 2, _ => by kernel_rfl
 | 3, _ => by kernel_rfl
 | 4, _ => by kernel_rfl
 | 5, _ => by kernel_rfl
 | 6, _ => by kernel_rfl
 | 7, _ => by kernel_rfl
 | 8, _ => by kernel_rfl
 | 9, _ => by kernel_rfl
 | 10, _ => by kernel_rfl
 | 11, _ => by kernel_rfl
 | 12, _ => by kernel_rfl
 | 13, _ => by kernel_rfl
 | n + 14, h => absurd h (by simp only [most]; omega)
theorem tg_ok (v : Int) : m.flexible v = true → true = true := fun _ => rfl
theorem fn_read (v : Nat) (hv : v ≤ most) (t : Tree) (ht : t.ok) (w : World) (ev sv : Value) (b sb : Nat) (hb : Box w b (cs0 (v : Int)) 119) (hs : SrcAt w sb sv (wPart (v : Int) (m.flexible (v : Int)) m.fields t)) (hsb : sb < w.heap.size) (hne : b ≠ sb)
  (hg : w.cell? ⟨1, 0, none⟩ = some ev) (hgb : 1 ≠ b) (hgl : 1 < w.heap.size) :
  Calls Tryz.prog 51 #[.pointer (some ⟨b, 0, none⟩), sv] w fun en w' => en = .returned .nilIface ∧ ∃ cs' lo new, w.heap.size ≤ lo ∧ Box w' b cs' 119 ∧ Reps (Dk sb lo w') w' (.lit (.int .i16 (v : Int)) :: new) cs' ∧ HoldP (v : Int) true (m.flexible (v : Int)) m.fields ((fitP (v : Int) m.fields t).withNull false) new ∧ Chg (fun j => j = b ∨ w.heap.size ≤ j) w w' := by
 obtain ⟨hread, htab, _⟩ := rd v hv
 obtain ⟨hfit, hwire⟩ := fitt_ok htab ht (m.flexible (v : Int))
 have hr := read_ok (Rdk.kr_ok ev) Rdk.kr_ty (tg_ok (v : Int)) hread hfit hb (by rw [hwire]; exact hs) hsb hne hg hgb hgl
 refine enter (vs := [.pointer (some ⟨b, 0, none⟩), sv]) Tryz.func51 rfl Tryz.ntmps51 rfl ?_
 repeat first|(with_reducible first|apply wc_seq|apply wc_region|apply wl_nil|apply qk_thn|apply wc_block|apply wc_skip|apply wc_ret|apply wc_exit|apply qk_thn_ret|apply qk_in_ret|apply qk_in|apply qk_thn_exit|apply qk_in_exit|apply qk_round_ret|apply qk_round_exit)|((with_reducible apply ws);exact rfl;exact rfl)|((with_reducible apply wl_yes);exact rfl;exact rfl;exact rfl)|((with_reducible apply wl_no);exact rfl;exact rfl;exact rfl;exact rfl)|((with_reducible apply wl_noU);exact rfl;exact rfl;exact rfl)
 refine wl_call rfl hr.1 rfl (hr.2.mono ?_)
 rintro en w1 ⟨rfl, h⟩
 refine ⟨_, rfl, ?_⟩
 repeat first|(with_reducible first|apply wc_seq|apply wc_region|apply wl_nil|apply qk_thn|apply wc_block|apply wc_skip|apply wc_ret|apply wc_exit|apply qk_thn_ret|apply qk_in_ret|apply qk_in|apply qk_thn_exit|apply qk_in_exit|apply qk_round_ret|apply qk_round_exit)|((with_reducible apply ws);exact rfl;exact rfl)|((with_reducible apply wl_yes);exact rfl;exact rfl;exact rfl)|((with_reducible apply wl_no);exact rfl;exact rfl;exact rfl;exact rfl)|((with_reducible apply wl_noU);exact rfl;exact rfl;exact rfl)
 exact qk_ret1 rfl rfl ⟨rfl, h⟩
theorem fn_app (v : Nat) (hv : v ≤ most) (t : Tree) (ht : t.ok) (w : World) (b B : Nat) (cs : List Value) (new : List D) (d : Value) (xs : List UInt8) (e : TypeId) (hb : Box w b cs e) (hbB : b < B) (hr : Reps (Lo B) w (.lit (.int .i16 (v : Int)) :: new) cs) (hh : HoldP (v : Int) true (m.flexible (v : Int)) m.fields ((fitP (v : Int) m.fields t).withNull false) new)
  (ho : Own w B 5 d xs) (hB : B ≤ w.heap.size) (hl : xs.length + (wPart (v : Int) (m.flexible (v : Int)) m.fields t).length ≤ lim) :
  isFn Tryz.prog 52 = true ∧ Calls Tryz.prog 52 #[.pointer (some ⟨b, 0, none⟩), d] w fun en w' => ∃ d', en = .returned d' ∧ Own w' B 5 d' (xs ++ wPart (v : Int) (m.flexible (v : Int)) m.fields t) ∧ Grew w w' d d' := by
 obtain ⟨_, htab, hlate⟩ := rd v hv
 obtain ⟨hfit, hwire⟩ := fitt_ok htab ht (m.flexible (v : Int))
 have hsem := exP_ok (tg_ok (v : Int)) (m := 1) (k := 0) (off := 1) (E := [.lit (.int .i16 (v : Int)) :: new]) (pre := [.lit (.int .i16 (v : Int))]) (post := []) hh (by simp) (by intro d hd; simp at hd; subst hd; simp [D.width]) rfl rfl hfit hlate
 rw [hwire] at hsem
 have hw : IntKind.i16.wrap (v : Int) = (v : Int) := be2_ver v (by simp only [most] at hv; omega)
 refine app_ok (Rdk.tlenOk _ _) (fnsOk _ _ _) (Rdk.teachOk _ _) (ap v hv) (ds := .lit (.int .i16 (v : Int)) :: new) (cs := cs) ⟨hb.cells, hbB, hr⟩ ?_ (lits_head hr) ho hB hsem hl
 simp only [shDs, shD, hw, if_true, hh.sh.1]
 rfl
set_option maxHeartbeats 4000000 in
theorem fn_door (v : Nat) (hv : v ≤ most) (t : Tree) (ht : t.ok) (w : World) (ev dv sv : Value) (xs : List UInt8) (hd : BytesAt w dv xs) (hs : BytesAt w sv (wPart (v : Int) (m.flexible (v : Int)) m.fields t)) (hg : w.cell? ⟨1, 0, none⟩ = some ev)
  (hl : xs.length + (wPart (v : Int) (m.flexible (v : Int)) m.fields t).length ≤ lim) :
  Calls Tryz.prog 22 #[.int .i64 (v : Int), dv, sv] w fun e w' => ∃ d', e = .returned (.tuple #[d', .bool true]) ∧ Own w' w.heap.size 5 d' (xs ++ wPart (v : Int) (m.flexible (v : Int)) m.fields t) ∧ Below w.heap.size w w' := by
 have hvm : v < 32768 := by simp only [most] at hv; omega
 obtain ⟨da, dc, hdv⟩ := hd.shape
 obtain ⟨sa, sc, hsv⟩ := hs.shape
 refine enter (vs := [.int .i64 (v : Int), dv, sv]) Tryz.func22 rfl Tryz.ntmps22 rfl ?_
 repeat first|(with_reducible first|apply wc_seq|apply wc_region|apply wl_nil|apply qk_thn|apply wc_block|apply wc_skip|apply wc_ret|apply wc_exit|apply qk_thn_ret|apply qk_in_ret|apply qk_in|apply qk_thn_exit|apply qk_in_exit|apply qk_round_ret|apply qk_round_exit)|((with_reducible apply ws);exact rfl;exact rfl)|((with_reducible apply wl_yes);exact rfl;exact rfl;exact rfl)|((with_reducible apply wl_no);exact rfl;exact rfl;exact rfl;exact rfl)|((with_reducible apply wl_noU);exact rfl;exact rfl;exact rfl)
 refine wl_call rfl (by kernel_rfl) rfl ((fn_new w).mono ?_)
 rintro e w1 ⟨rfl, hb1, hw1⟩
 refine ⟨_, rfl, ?_⟩
 repeat first|(with_reducible first|apply wc_seq|apply wc_region|apply wl_nil|apply qk_thn|apply wc_block|apply wc_skip|apply wc_ret|apply wc_exit|apply qk_thn_ret|apply qk_in_ret|apply qk_in|apply qk_thn_exit|apply qk_in_exit|apply qk_round_ret|apply qk_round_exit)|((with_reducible apply ws);exact rfl;exact rfl)|((with_reducible apply wl_yes);exact rfl;exact rfl;exact rfl)|((with_reducible apply wl_no);exact rfl;exact rfl;exact rfl;exact rfl)|((with_reducible apply wl_noU);exact rfl;exact rfl;exact rfl)
 refine wl_conv .i16 rfl ti_i64 ti_i16 rfl (r := (v : Int)) (be2_ver v hvm) ?_
 rw [d0_hd] at hb1
 refine wl_call rfl (by kernel_rfl) rfl ((fn_set w1 w.heap.size _ _ (v : Int) hb1).mono ?_)
 rintro e w2 ⟨rfl, hb2, hg2⟩
 refine ⟨_, rfl, ?_⟩
 have hlt := hb1.lt
 have hw2 := hw1.trans (below_of hg2 (by omega) (by intro q hq; simp at hq; omega))
 have hs2 := hs.below hw2
 have hz2 := hg2.size
 repeat first|(with_reducible first|apply wc_seq|apply wc_region|apply wl_nil|apply qk_thn|apply wc_block|apply wc_skip|apply wc_ret|apply wc_exit|apply qk_thn_ret|apply qk_in_ret|apply qk_in|apply qk_thn_exit|apply qk_in_exit|apply qk_round_ret|apply qk_round_exit)|((with_reducible apply ws);exact rfl;exact rfl)|((with_reducible apply wl_yes);exact rfl;exact rfl;exact rfl)|((with_reducible apply wl_no);exact rfl;exact rfl;exact rfl;exact rfl)|((with_reducible apply wl_noU);exact rfl;exact rfl;exact rfl)
 refine wl_appSl tb_bytes tb_bytes rfl rfl rfl hs2 (Own.nil w2 w2.heap.size 5) (Nat.le_refl _) (by simp only [List.length_nil]; omega) (fun d3 w3 ho3 hg3 => ?_)
 have hw23 : Below w2.heap.size w2 w3 := hg3.below (Nat.le_refl _) (by simp [Value.ownBlock])
 have hw3 := hw2.trans (hw23.mono (by omega))
 have hb3 := hb2.below hw23 (by omega)
 have hz3 := hw23.size
 have hgl : 1 < w.heap.size := World.block_lt_of_cell? _ _ hg
 have hg3' : w3.cell? ⟨1, 0, none⟩ = some ev := by rw [← hg]; simp only [World.cell?, hw3.block _ hgl]
 rw [List.nil_append] at ho3
 obtain ⟨sb, hsb, hsbx, hsrc⟩ := own_src ho3 (by simp only [srcLim]; simp only [lim] at hl; omega) (by omega) (by omega)
 refine wl_call rfl (by kernel_rfl) rfl ((fn_read v hv t ht w3 ev d3 w.heap.size sb hb3 hsrc hsb (by omega) hg3' (by omega) (by omega)).mono ?_)
 rintro e w4 ⟨rfl, cs4, lo4, new4, hlo4, hb4, hr4, hh4, hc4⟩
 refine ⟨_, rfl, ?_⟩
 have hw34 : Below w.heap.size w3 w4 := chg_below hc4 (fun j hj h => by rcases h with h | h <;> omega) (by omega)
 have hw4 := hw3.trans hw34
 have hz4 := hw34.size
 refine wl_ifNeNil rfl (by kernel_rfl) rfl ?_
 repeat first|(with_reducible first|apply wc_seq|apply wc_region|apply wl_nil|apply qk_thn|apply wc_block|apply wc_skip|apply wc_ret|apply wc_exit|apply qk_thn_ret|apply qk_in_ret|apply qk_in|apply qk_thn_exit|apply qk_in_exit|apply qk_round_ret|apply qk_round_exit)|((with_reducible apply ws);exact rfl;exact rfl)|((with_reducible apply wl_yes);exact rfl;exact rfl;exact rfl)|((with_reducible apply wl_no);exact rfl;exact rfl;exact rfl;exact rfl)|((with_reducible apply wl_noU);exact rfl;exact rfl;exact rfl)
 refine wc_no rfl rfl ?_
 repeat first|(with_reducible first|apply wc_seq|apply wc_region|apply wl_nil|apply qk_thn|apply wc_block|apply wc_skip|apply wc_ret|apply wc_exit|apply qk_thn_ret|apply qk_in_ret|apply qk_in|apply qk_thn_exit|apply qk_in_exit|apply qk_round_ret|apply qk_round_exit)|((with_reducible apply ws);exact rfl;exact rfl)|((with_reducible apply wl_yes);exact rfl;exact rfl;exact rfl)|((with_reducible apply wl_no);exact rfl;exact rfl;exact rfl;exact rfl)|((with_reducible apply wl_noU);exact rfl;exact rfl;exact rfl)
 refine wl_appSl tb_bytes tb_bytes rfl rfl rfl (hd.below hw4) (Own.nil w4 w4.heap.size 5) (Nat.le_refl _) (by simp only [List.length_nil]; omega) (fun d5 w5 ho5 hg5 => ?_)
 have hw45 : Below w4.heap.size w4 w5 := hg5.below (Nat.le_refl _) (by simp [Value.ownBlock])
 have hz5 := hw45.size
 rw [List.nil_append] at ho5
 have hr5 : Reps (Lo w4.heap.size) w5 (.lit (.int .i16 (v : Int)) :: new4) cs4 := Reps.mono (fun j hj => ⟨hj.2, hw45.block j hj.2⟩) _ _ hr4
 have hcall := fn_app v hv t ht w5 w.heap.size w4.heap.size cs4 new4 d5 xs _ (hb4.below hw45 hb4.lt) hb4.lt hr5 hh4 ho5 hz5 hl
 refine wl_call rfl hcall.1 rfl (hcall.2.mono ?_)
 rintro e w6 ⟨d6, rfl, ho6, hg6⟩
 refine ⟨_, rfl, ?_⟩
 have hw56 : Below w4.heap.size w5 w6 := hg6.below hz5 ho5.ge
 repeat first|(with_reducible first|apply wc_seq|apply wc_region|apply wl_nil|apply qk_thn|apply wc_block|apply wc_skip|apply wc_ret|apply wc_exit|apply qk_thn_ret|apply qk_in_ret|apply qk_in|apply qk_thn_exit|apply qk_in_exit|apply qk_round_ret|apply qk_round_exit)|((with_reducible apply ws);exact rfl;exact rfl)|((with_reducible apply wl_yes);exact rfl;exact rfl;exact rfl)|((with_reducible apply wl_no);exact rfl;exact rfl;exact rfl;exact rfl)|((with_reducible apply wl_noU);exact rfl;exact rfl;exact rfl)
 exact qk_ret2 rfl rfl rfl ⟨d6, rfl, ho6.mono (by omega), (hw4.trans (hw45.mono (by omega))).trans (hw56.mono (by omega))⟩
end
end Go.Proofs.YtlmnaffhadeolaaGreatDoor.BProduceRequest

namespace Go.Proofs.YtlmnaffhadeolaaGreatDoor.BProduceRequest
open Go Go.RowKit
section
set_option maxRecDepth 100000
theorem len_ok (t : Tree) (ht : t.ok) (hsm : t.wt ≤ 1048576) (ver : Int) (flex : Bool) : 1000 + (wPart ver flex m.fields t).length ≤ lim := by
 have h1 := wPart_price ver flex m.fields t ht
 have h2 : 1000 + partPrice m.fields * 1048576 ≤ lim := by decide +kernel
 exact Nat.le_trans (Nat.add_le_add_left (Nat.le_trans h1 (Nat.mul_le_mul_left (partPrice m.fields) hsm)) 1000) h2
set_option maxHeartbeats 4000000 in
theorem fn_law (n : Nat) (hn : n < 256) (xs : List UInt8) (t : Tree) (ht : t.ok) (hsm : t.wt ≤ 1048576) (w : World) (ev dv : Value) (ts : List Value) (hd : BytesAt w dv xs) (hrep : Rep (Lo w.heap.size) w (treeD t) ts) (hg : w.cell? ⟨1, 0, none⟩ = some ev) :
  Fn 5 [.int .u8 (n : Int), dv, .agg ts.toArray] w fun v _ => v = .bool true := by
 obtain ⟨sv2, lv, uv, rfl, _, _, _⟩ := tree_cells hrep
 obtain ⟨da, dc, hdv⟩ := hd.shape
 subst hdv
 refine enter Tryz.func5 rfl Tryz.ntmps5 rfl ?_
 repeat first|(with_reducible first|apply wc_seq|apply wc_region|apply wl_nil|apply qk_thn|apply wc_block|apply wc_skip|apply wc_ret|apply wc_exit|apply qk_thn_ret|apply qk_in_ret|apply qk_in|apply qk_thn_exit|apply qk_in_exit|apply qk_round_ret|apply qk_round_exit)|((with_reducible apply ws);exact rfl;exact rfl)|((with_reducible apply wl_yes);exact rfl;exact rfl;exact rfl)|((with_reducible apply wl_no);exact rfl;exact rfl;exact rfl;exact rfl)|((with_reducible apply wl_noU);exact rfl;exact rfl;exact rfl)
 refine wl_box1 rfl rfl rfl (fun w1 hb1 hg1 hs1 => ?_)
 have hw1 : Below w.heap.size w w1 := below_of hg1 (Nat.le_refl _) (by simp)
 repeat first|(with_reducible first|apply wc_seq|apply wc_region|apply wl_nil|apply qk_thn|apply wc_block|apply wc_skip|apply wc_ret|apply wc_exit|apply qk_thn_ret|apply qk_in_ret|apply qk_in|apply qk_thn_exit|apply qk_in_exit|apply qk_round_ret|apply qk_round_exit)|((with_reducible apply ws);exact rfl;exact rfl)|((with_reducible apply wl_yes);exact rfl;exact rfl;exact rfl)|((with_reducible apply wl_no);exact rfl;exact rfl;exact rfl;exact rfl)|((with_reducible apply wl_noU);exact rfl;exact rfl;exact rfl)
 by_cases h0 : (2147483647 : Int) < (xs.length : Int)
 ·have e0 : decide ((2147483647 : Int) < (xs.length : Int)) = true := decide_eq_true h0
  rw [e0]
  repeat first|(with_reducible first|apply wc_seq|apply wc_region|apply wl_nil|apply qk_thn|apply wc_block|apply wc_skip|apply wc_ret|apply wc_exit|apply qk_thn_ret|apply qk_in_ret|apply qk_in|apply qk_thn_exit|apply qk_in_exit|apply qk_round_ret|apply qk_round_exit)|((with_reducible apply ws);exact rfl;exact rfl)|((with_reducible apply wl_yes);exact rfl;exact rfl;exact rfl)|((with_reducible apply wl_no);exact rfl;exact rfl;exact rfl;exact rfl)|((with_reducible apply wl_noU);exact rfl;exact rfl;exact rfl)
  refine wc_yes rfl rfl ?_
  repeat first|(with_reducible first|apply wc_seq|apply wc_region|apply wl_nil|apply qk_thn|apply wc_block|apply wc_skip|apply wc_ret|apply wc_exit|apply qk_thn_ret|apply qk_in_ret|apply qk_in|apply qk_thn_exit|apply qk_in_exit|apply qk_round_ret|apply qk_round_exit)|((with_reducible apply ws);exact rfl;exact rfl)|((with_reducible apply wl_yes);exact rfl;exact rfl;exact rfl)|((with_reducible apply wl_no);exact rfl;exact rfl;exact rfl;exact rfl)|((with_reducible apply wl_noU);exact rfl;exact rfl;exact rfl)
  exact qk_ret1 rfl rfl ⟨_, rfl, hw1, rfl⟩
 have e0 : decide ((2147483647 : Int) < (xs.length : Int)) = false := decide_eq_false h0
 rw [e0]
 repeat first|(with_reducible first|apply wc_seq|apply wc_region|apply wl_nil|apply qk_thn|apply wc_block|apply wc_skip|apply wc_ret|apply wc_exit|apply qk_thn_ret|apply qk_in_ret|apply qk_in|apply qk_thn_exit|apply qk_in_exit|apply qk_round_ret|apply qk_round_exit)|((with_reducible apply ws);exact rfl;exact rfl)|((with_reducible apply wl_yes);exact rfl;exact rfl;exact rfl)|((with_reducible apply wl_no);exact rfl;exact rfl;exact rfl;exact rfl)|((with_reducible apply wl_noU);exact rfl;exact rfl;exact rfl)
 refine wl_loadBAgg (cs := [.int .i64 t.n, sv2, .bool t.nul, lv, uv]) rfl ta_tree rfl hb1 ?_
 repeat first|(with_reducible first|apply wc_seq|apply wc_region|apply wl_nil|apply qk_thn|apply wc_block|apply wc_skip|apply wc_ret|apply wc_exit|apply qk_thn_ret|apply qk_in_ret|apply qk_in|apply qk_thn_exit|apply qk_in_exit|apply qk_round_ret|apply qk_round_exit)|((with_reducible apply ws);exact rfl;exact rfl)|((with_reducible apply wl_yes);exact rfl;exact rfl;exact rfl)|((with_reducible apply wl_no);exact rfl;exact rfl;exact rfl;exact rfl)|((with_reducible apply wl_noU);exact rfl;exact rfl;exact rfl)
 refine wl_call rfl (by kernel_rfl) rfl ((fn_fits1 t w.heap.size w1 _ (by omega) (hrep.below hw1 (Nat.le_refl _))).mono ?_)
 rintro e w2 ⟨v, rfl, hw12, q, rfl⟩
 refine ⟨_, rfl, ?_⟩
 have hz12 := hw12.size
 have hw2 := hw1.trans (hw12.mono (by omega))
 repeat first|(with_reducible first|apply wc_seq|apply wc_region|apply wl_nil|apply qk_thn|apply wc_block|apply wc_skip|apply wc_ret|apply wc_exit|apply qk_thn_ret|apply qk_in_ret|apply qk_in|apply qk_thn_exit|apply qk_in_exit|apply qk_round_ret|apply qk_round_exit)|((with_reducible apply ws);exact rfl;exact rfl)|((with_reducible apply wl_yes);exact rfl;exact rfl;exact rfl)|((with_reducible apply wl_no);exact rfl;exact rfl;exact rfl;exact rfl)|((with_reducible apply wl_noU);exact rfl;exact rfl;exact rfl)
 cases q
 ·refine wc_yes rfl rfl ?_
  repeat first|(with_reducible first|apply wc_seq|apply wc_region|apply wl_nil|apply qk_thn|apply wc_block|apply wc_skip|apply wc_ret|apply wc_exit|apply qk_thn_ret|apply qk_in_ret|apply qk_in|apply qk_thn_exit|apply qk_in_exit|apply qk_round_ret|apply qk_round_exit)|((with_reducible apply ws);exact rfl;exact rfl)|((with_reducible apply wl_yes);exact rfl;exact rfl;exact rfl)|((with_reducible apply wl_no);exact rfl;exact rfl;exact rfl;exact rfl)|((with_reducible apply wl_noU);exact rfl;exact rfl;exact rfl)
  exact qk_ret1 rfl rfl ⟨_, rfl, hw2, rfl⟩
 refine wc_no rfl rfl ?_
 repeat first|(with_reducible first|apply wc_seq|apply wc_region|apply wl_nil|apply qk_thn|apply wc_block|apply wc_skip|apply wc_ret|apply wc_exit|apply qk_thn_ret|apply qk_in_ret|apply qk_in|apply qk_thn_exit|apply qk_in_exit|apply qk_round_ret|apply qk_round_exit)|((with_reducible apply ws);exact rfl;exact rfl)|((with_reducible apply wl_yes);exact rfl;exact rfl;exact rfl)|((with_reducible apply wl_no);exact rfl;exact rfl;exact rfl;exact rfl)|((with_reducible apply wl_noU);exact rfl;exact rfl;exact rfl)
 refine wl_call rfl (by kernel_rfl) rfl ((fn_max w2).mono ?_)
 rintro e w3 ⟨rfl, hw23⟩
 refine ⟨_, rfl, ?_⟩
 have hz23 := hw23.size
 have hw13 := hw12.trans (hw23.mono (by omega))
 have hw3 := hw2.trans (hw23.mono (by omega))
 repeat first|(with_reducible first|apply wc_seq|apply wc_region|apply wl_nil|apply qk_thn|apply wc_block|apply wc_skip|apply wc_ret|apply wc_exit|apply qk_thn_ret|apply qk_in_ret|apply qk_in|apply qk_thn_exit|apply qk_in_exit|apply qk_round_ret|apply qk_round_exit)|((with_reducible apply ws);exact rfl;exact rfl)|((with_reducible apply wl_yes);exact rfl;exact rfl;exact rfl)|((with_reducible apply wl_no);exact rfl;exact rfl;exact rfl;exact rfl)|((with_reducible apply wl_noU);exact rfl;exact rfl;exact rfl)
 refine wc_no rfl (by decide) ?_
 repeat first|(with_reducible first|apply wc_seq|apply wc_region|apply wl_nil|apply qk_thn|apply wc_block|apply wc_skip|apply wc_ret|apply wc_exit|apply qk_thn_ret|apply qk_in_ret|apply qk_in|apply qk_thn_exit|apply qk_in_exit|apply qk_round_ret|apply qk_round_exit)|((with_reducible apply ws);exact rfl;exact rfl)|((with_reducible apply wl_yes);exact rfl;exact rfl;exact rfl)|((with_reducible apply wl_no);exact rfl;exact rfl;exact rfl;exact rfl)|((with_reducible apply wl_noU);exact rfl;exact rfl;exact rfl)
 refine wl_call rfl (by kernel_rfl) rfl ((fn_table w3).mono ?_)
 rintro e w4 ⟨v, rfl, hw34, fv, rfl, hsq⟩
 refine ⟨_, rfl, ?_⟩
 have hz34 := hw34.size
 have hw14 := hw13.trans (hw34.mono (by omega))
 have hw4 := hw3.trans (hw34.mono (by omega))
 repeat first|(with_reducible first|apply wc_seq|apply wc_region|apply wl_nil|apply qk_thn|apply wc_block|apply wc_skip|apply wc_ret|apply wc_exit|apply qk_thn_ret|apply qk_in_ret|apply qk_in|apply qk_thn_exit|apply qk_in_exit|apply qk_round_ret|apply qk_round_exit)|((with_reducible apply ws);exact rfl;exact rfl)|((with_reducible apply wl_yes);exact rfl;exact rfl;exact rfl)|((with_reducible apply wl_no);exact rfl;exact rfl;exact rfl;exact rfl)|((with_reducible apply wl_noU);exact rfl;exact rfl;exact rfl)
 refine wl_call rfl (by kernel_rfl) rfl ((fn_version n most hn (by decide) w4).mono ?_)
 rintro e w4' ⟨v, rfl, _, hww, rfl⟩
 obtain rfl : w4 = w4' := hww.symm
 refine ⟨_, rfl, ?_⟩
 refine wl_alloc zv_msg rfl rfl (fun w5 hb5 hg5 hs5 => ?_)
 obtain ⟨fa, fc, rfl, _⟩ := hsq.shape
 refine wl_storeBAgg (vs := [.slice fa (m.fields.map fldD).length fc, .int .i64 m.flex]) rfl rfl rfl tz_msg rfl hb5 rfl (fun w6 hb6 hg6 hs6 => ?_)
 have hw46 : Below w4.heap.size w4 w6 := (below_of hg5 (Nat.le_refl _) (by simp)).trans (below_of hg6 (by omega) (by intro q hq; simp at hq; omega))
 have hz46 := hw46.size
 have hw16 := hw14.trans (hw46.mono (by omega))
 have hw6 := hw4.trans (hw46.mono (by omega))
 repeat first|(with_reducible first|apply wc_seq|apply wc_region|apply wl_nil|apply qk_thn|apply wc_block|apply wc_skip|apply wc_ret|apply wc_exit|apply qk_thn_ret|apply qk_in_ret|apply qk_in|apply qk_thn_exit|apply qk_in_exit|apply qk_round_ret|apply qk_round_exit)|((with_reducible apply ws);exact rfl;exact rfl)|((with_reducible apply wl_yes);exact rfl;exact rfl;exact rfl)|((with_reducible apply wl_no);exact rfl;exact rfl;exact rfl;exact rfl)|((with_reducible apply wl_noU);exact rfl;exact rfl;exact rfl)
 by_cases h1 : (1000 : Int) < (xs.length : Int)
 ·have e1 : decide ((1000 : Int) < (xs.length : Int)) = true := decide_eq_true h1
  rw [e1]
  refine wc_yes rfl rfl ?_
  repeat first|(with_reducible first|apply wc_seq|apply wc_region|apply wl_nil|apply qk_thn|apply wc_block|apply wc_skip|apply wc_ret|apply wc_exit|apply qk_thn_ret|apply qk_in_ret|apply qk_in|apply qk_thn_exit|apply qk_in_exit|apply qk_round_ret|apply qk_round_exit)|((with_reducible apply ws);exact rfl;exact rfl)|((with_reducible apply wl_yes);exact rfl;exact rfl;exact rfl)|((with_reducible apply wl_no);exact rfl;exact rfl;exact rfl;exact rfl)|((with_reducible apply wl_noU);exact rfl;exact rfl;exact rfl)
  exact qk_ret1 rfl rfl ⟨_, rfl, hw6, rfl⟩
 have e1 : decide ((1000 : Int) < (xs.length : Int)) = false := decide_eq_false h1
 rw [e1]
 refine wc_no rfl rfl ?_
 repeat first|(with_reducible first|apply wc_seq|apply wc_region|apply wl_nil|apply qk_thn|apply wc_block|apply wc_skip|apply wc_ret|apply wc_exit|apply qk_thn_ret|apply qk_in_ret|apply qk_in|apply qk_thn_exit|apply qk_in_exit|apply qk_round_ret|apply qk_round_exit)|((with_reducible apply ws);exact rfl;exact rfl)|((with_reducible apply wl_yes);exact rfl;exact rfl;exact rfl)|((with_reducible apply wl_no);exact rfl;exact rfl;exact rfl;exact rfl)|((with_reducible apply wl_noU);exact rfl;exact rfl;exact rfl)
 have hv : n % (most + 1) ≤ most := by have := Nat.mod_lt n (show most + 1 > 0 by omega); omega
 generalize n % (most + 1) = v at hv ⊢
 have hll := len_ok t ht hsm (v : Int) (m.flexible (v : Int))
 refine wl_loadBAgg (cs := [.slice fa (m.fields.map fldD).length fc, .int .i64 m.flex]) rfl ta_msg rfl hb6 ?_
 repeat first|(with_reducible first|apply wc_seq|apply wc_region|apply wl_nil|apply qk_thn|apply wc_block|apply wc_skip|apply wc_ret|apply wc_exit|apply qk_thn_ret|apply qk_in_ret|apply qk_in|apply qk_thn_exit|apply qk_in_exit|apply qk_round_ret|apply qk_round_exit)|((with_reducible apply ws);exact rfl;exact rfl)|((with_reducible apply wl_yes);exact rfl;exact rfl;exact rfl)|((with_reducible apply wl_no);exact rfl;exact rfl;exact rfl;exact rfl)|((with_reducible apply wl_noU);exact rfl;exact rfl;exact rfl)
 refine wl_loadBAgg (cs := [.int .i64 t.n, sv2, .bool t.nul, lv, uv]) rfl ta_tree rfl (hb1.below hw16 hb1.lt) ?_
 refine wl_call rfl (by kernel_rfl) rfl ((fn_write m m_ok (v : Int) t w6.heap.size w6 _ _ ht (Nat.le_refl _) (hsq.below hw46 hz46) ((hrep.below hw6 hw6.size)) (by show (wPart _ _ _ _).length ≤ lim; omega)).mono ?_)
 rintro e w7 ⟨bv7, rfl, hw67, ho7⟩
 refine ⟨_, rfl, ?_⟩
 have ho7' : Own w7 w6.heap.size 5 bv7 (wPart (v : Int) (m.flexible (v : Int)) m.fields t) := ho7
 have hz67 := hw67.size
 have hz6 := hw6.size
 have hw7 := hw6.trans (hw67.mono (by omega))
 have hg7 : w7.cell? ⟨1, 0, none⟩ = some ev := by rw [← hg]; simp only [World.cell?, hw7.block _ (World.block_lt_of_cell? _ _ hg)]
 repeat first|(with_reducible first|apply wc_seq|apply wc_region|apply wl_nil|apply qk_thn|apply wc_block|apply wc_skip|apply wc_ret|apply wc_exit|apply qk_thn_ret|apply qk_in_ret|apply qk_in|apply qk_thn_exit|apply qk_in_exit|apply qk_round_ret|apply qk_round_exit)|((with_reducible apply ws);exact rfl;exact rfl)|((with_reducible apply wl_yes);exact rfl;exact rfl;exact rfl)|((with_reducible apply wl_no);exact rfl;exact rfl;exact rfl;exact rfl)|((with_reducible apply wl_noU);exact rfl;exact rfl;exact rfl)
 refine wl_call rfl (by kernel_rfl) rfl ((fn_door v hv t ht w7 ev _ _ xs (hd.below hw7) ho7'.bytes hg7 (by omega)).mono ?_)
 rintro e w8 ⟨d8, rfl, ho8, hw78⟩
 refine ⟨_, rfl, ?_⟩
 have hz78 := hw78.size
 have hw8 := hw7.trans (hw78.mono (by omega))
 repeat first|(with_reducible first|apply wc_seq|apply wc_region|apply wl_nil|apply qk_thn|apply wc_block|apply wc_skip|apply wc_ret|apply wc_exit|apply qk_thn_ret|apply qk_in_ret|apply qk_in|apply qk_thn_exit|apply qk_in_exit|apply qk_round_ret|apply qk_round_exit)|((with_reducible apply ws);exact rfl;exact rfl)|((with_reducible apply wl_yes);exact rfl;exact rfl;exact rfl)|((with_reducible apply wl_no);exact rfl;exact rfl;exact rfl;exact rfl)|((with_reducible apply wl_noU);exact rfl;exact rfl;exact rfl)
 refine wl_extract rfl rfl rfl ?_
 refine wl_extract rfl rfl rfl ?_
 repeat first|(with_reducible first|apply wc_seq|apply wc_region|apply wl_nil|apply qk_thn|apply wc_block|apply wc_skip|apply wc_ret|apply wc_exit|apply qk_thn_ret|apply qk_in_ret|apply qk_in|apply qk_thn_exit|apply qk_in_exit|apply qk_round_ret|apply qk_round_exit)|((with_reducible apply ws);exact rfl;exact rfl)|((with_reducible apply wl_yes);exact rfl;exact rfl;exact rfl)|((with_reducible apply wl_no);exact rfl;exact rfl;exact rfl;exact rfl)|((with_reducible apply wl_noU);exact rfl;exact rfl;exact rfl)
 refine wl_lit (ps := []) (ys := []) tb_bytes rfl rfl rfl rfl rfl (fun w9 ho9 hw89 => ?_)
 have hz89 := hw89.size
 have hw9 := hw8.trans (hw89.mono (by omega))
 repeat first|(with_reducible first|apply wc_seq|apply wc_region|apply wl_nil|apply qk_thn|apply wc_block|apply wc_skip|apply wc_ret|apply wc_exit|apply qk_thn_ret|apply qk_in_ret|apply qk_in|apply qk_thn_exit|apply qk_in_exit|apply qk_round_ret|apply qk_round_exit)|((with_reducible apply ws);exact rfl;exact rfl)|((with_reducible apply wl_yes);exact rfl;exact rfl;exact rfl)|((with_reducible apply wl_no);exact rfl;exact rfl;exact rfl;exact rfl)|((with_reducible apply wl_noU);exact rfl;exact rfl;exact rfl)
 refine wl_appSl tb_bytes tb_bytes rfl rfl rfl (hd.below hw9) ho9 hz89 (by simp only [List.length_nil]; omega) (fun d10 w10 ho10 hg10 => ?_)
 have hw910 : Below w8.heap.size w9 w10 := hg10.below hz89 ho9.ge
 have hz910 := hw910.size
 have hw810 := hw89.trans hw910
 repeat first|(with_reducible first|apply wc_seq|apply wc_region|apply wl_nil|apply qk_thn|apply wc_block|apply wc_skip|apply wc_ret|apply wc_exit|apply qk_thn_ret|apply qk_in_ret|apply qk_in|apply qk_thn_exit|apply qk_in_exit|apply qk_round_ret|apply qk_round_exit)|((with_reducible apply ws);exact rfl;exact rfl)|((with_reducible apply wl_yes);exact rfl;exact rfl;exact rfl)|((with_reducible apply wl_no);exact rfl;exact rfl;exact rfl;exact rfl)|((with_reducible apply wl_noU);exact rfl;exact rfl;exact rfl)
 rw [List.nil_append] at ho10
 refine wl_appSl tb_bytes tb_bytes rfl rfl rfl (ho7'.bytes.below ((hw78.trans (hw810.mono (by omega))))) ho10 (by omega) (by omega) (fun d11 w11 ho11 hg11 => ?_)
 have hw1011 : Below w8.heap.size w10 w11 := hg11.below (by omega) ho10.ge
 have hz1011 := hw1011.size
 have hw811 := hw810.trans hw1011
 have hw11 := hw8.trans (hw811.mono (by omega))
 repeat first|(with_reducible first|apply wc_seq|apply wc_region|apply wl_nil|apply qk_thn|apply wc_block|apply wc_skip|apply wc_ret|apply wc_exit|apply qk_thn_ret|apply qk_in_ret|apply qk_in|apply qk_thn_exit|apply qk_in_exit|apply qk_round_ret|apply qk_round_exit)|((with_reducible apply ws);exact rfl;exact rfl)|((with_reducible apply wl_yes);exact rfl;exact rfl;exact rfl)|((with_reducible apply wl_no);exact rfl;exact rfl;exact rfl;exact rfl)|((with_reducible apply wl_noU);exact rfl;exact rfl;exact rfl)
 refine wl_call rfl (by kernel_rfl) rfl ((fn_same _ _ _ _ w11 (ho8.bytes.below hw811) ho11.bytes (by rw [List.length_append]; omega) (by rw [List.length_append]; omega)).mono ?_)
 rintro e w12 ⟨v, rfl, hw1112, rfl⟩
 refine ⟨_, rfl, ?_⟩
 repeat first|(with_reducible first|apply wc_seq|apply wc_region|apply wl_nil|apply qk_thn|apply wc_block|apply wc_skip|apply wc_ret|apply wc_exit|apply qk_thn_ret|apply qk_in_ret|apply qk_in|apply qk_thn_exit|apply qk_in_exit|apply qk_round_ret|apply qk_round_exit)|((with_reducible apply ws);exact rfl;exact rfl)|((with_reducible apply wl_yes);exact rfl;exact rfl;exact rfl)|((with_reducible apply wl_no);exact rfl;exact rfl;exact rfl;exact rfl)|((with_reducible apply wl_noU);exact rfl;exact rfl;exact rfl)
 have hz11 := hw11.size
 exact qk_ret1 rfl rfl ⟨_, rfl, hw11.trans (hw1112.mono (by omega)), by simp⟩
end
end Go.Proofs.YtlmnaffhadeolaaGreatDoor.BProduceRequest

namespace Go.Proofs.YtlmnaffhadeolaaGreatDoor
open Go Go.RowKit Go.ChangeShapes Go.WideShapes Go.ChangeAt
theorem row_at {W : World} {a : Addr} {sz len : Nat} {f : Nat → List Value} (hsz : 0 < sz) (hlen : 0 < len)
  (hf : ∀ i, i < len → (f i).length = sz ∧ ∀ j v, (f i)[j]? = some v → W.cell? ((a.add (i * sz)).add j) = some v) :
  ∃ b off, a = ⟨b, off, none⟩ ∧ b < W.heap.size ∧ CellsAt W b off ((List.range len).flatMap f) := by
 have h0 := hf 0 hlen
 obtain ⟨b, off, spot⟩ := a
 have hx : ∃ v, (f 0)[0]? = some v := by
  cases hv : (f 0)[0]? with
  | none => rw [List.getElem?_eq_none_iff] at hv; omega
  | some v => exact ⟨v, rfl⟩
 obtain ⟨v0, hv0⟩ := hx
 have hc0 := h0.2 0 v0 hv0
 have hspot : spot = none := by simpa [Addr.add] using World.cell?_spot hc0
 subst hspot
 simp only [Nat.zero_mul] at hc0
 have hadd : ∀ n m, (Addr.add (Addr.add ⟨b, off, none⟩ n) m) = ⟨b, off + n + m, none⟩ := fun n m => by rw [add_plain ⟨b, off, none⟩ n rfl]; rw [add_plain _ _ rfl]
 rw [hadd] at hc0
 have hobj : ∃ arr e fz, W.heap[b]? = some (.cells arr e fz) := by
  unfold World.cell? at hc0
  split at hc0
  ·rename_i c e fz hh; exact ⟨c, e, fz, hh⟩
  ·cases hc0
 obtain ⟨arr, e, fz, hh⟩ := hobj
 have hall : ∀ i j v, i < len → (f i)[j]? = some v → arr[off + i * sz + j]? = some v := by
  intro i j v hi hv
  have := (hf i hi).2 j v hv
  rw [hadd] at this
  simpa [World.cell?, hh] using this
 have hflat : ∀ n, n ≤ len → ((List.range n).flatMap f).length = n * sz ∧ ∀ q v, ((List.range n).flatMap f)[q]? = some v → arr[off + q]? = some v := by
  intro n
  induction n with
  | zero => intro _; simp
  | succ n ih =>
   intro hn
   obtain ⟨hl, hq⟩ := ih (by omega)
   rw [List.range_succ, List.flatMap_append]
   simp only [List.flatMap_cons, List.flatMap_nil, List.append_nil]
   refine ⟨by rw [List.length_append, hl, (hf n (by omega)).1, Nat.succ_mul], fun q v hv => ?_⟩
   by_cases hlt : q < n * sz
   ·rw [List.getElem?_append_left (by omega)] at hv; exact hq q v hv
   ·rw [List.getElem?_append_right (by omega), hl] at hv
    have := hall n (q - n * sz) v (by omega) hv
    rwa [show off + n * sz + (q - n * sz) = off + q from by omega] at this
 obtain ⟨hl, hq⟩ := hflat len (Nat.le_refl _)
 refine ⟨b, off, rfl, (Array.getElem?_eq_some_iff.1 hh).1, arr, e, fz, hh, ?_, hq⟩
 have hpos : 0 < len * sz := Nat.mul_pos hlen hsz
 have hlast : ∃ v, ((List.range len).flatMap f)[len * sz - 1]? = some v := by
  cases hv : ((List.range len).flatMap f)[len * sz - 1]? with
  | none => rw [List.getElem?_eq_none_iff] at hv; omega
  | some v => exact ⟨v, rfl⟩
 obtain ⟨v, hv⟩ := hlast
 have := (Array.getElem?_eq_some_iff.1 (hq _ v hv)).1
 rw [hl]; omega
theorem sum_le : ∀ (a b : List Nat), a.length = b.length → (∀ i (h : i < a.length) (h' : i < b.length), a[i] ≤ b[i]) → a.sum ≤ b.sum
 | [], b, _, _ => by simp
 | x :: a, [], h, _ => by simp at h
 | x :: a, y :: b, h, hall => by
  have h0 := hall 0 (by simp) (by simp)
  have h1 := sum_le a b (by simpa using h) (fun i hi hi' => by have := hall (i + 1) (by simpa using hi) (by simpa using hi'); simpa using this)
  simp only [List.getElem_cons_zero] at h0
  simp only [List.sum_cons]; omega
section
variable {H : Type} {enc : TypeId × Value → H} {P : Program} {W : World} {base : Nat} {spare : Nat → Bool} {held : Bool}
theorem open_sq {α : Type} {t e sz : Nat} (ht : P.underlying t = some (.slice e)) (hc : P.cellsOf e = sz) (hsz : 0 < sz) (g : α → D) (φ : α → Prop) (f0 : α → Nat) (bk : DataW H → Nat) (hnil : 1 ≤ bk .nil) (hsl : ∀ es sp : List (DataW H), (es.map bk).sum + 1 ≤ bk (.slice es sp)) {fuel : Nat} {cs : List Value} {x : DataW H × List MemPlace}
  (h : DataW.trod enc P W base spare held fuel t cs = some x)
  (hel : ∀ n cs' x', n < fuel → DataW.trod enc P W base spare held n e cs' = some x' → ∃ y : α, Rep (Lo W.heap.size) W (g y) cs' ∧ φ y ∧ f0 y ≤ bk x'.1) :
  ∃ (l : List α) (v : Value), cs = [v] ∧ l.length ≤ maxLen ∧ Sq W.heap.size W v (l.map g) ∧ (∀ y ∈ l, φ y) ∧ (l.map f0).sum + 1 ≤ bk x.1 := by
 rcases DataW.trod_slice ht h with ⟨rfl, rfl⟩ | ⟨a, len, cap, elems, rest, n, hfu, rfl, rfl, hb, hle, hcap, hlen, hels, _, _⟩
 ·exact ⟨[], _, rfl, by simp, rep_nil _ _, by simp, by simpa using hnil⟩
 ·have hone : ∀ i : Fin len, ∃ p : List Value × α, W.cells? base (a.add (i.1 * sz)) sz = some p.1 ∧ Rep (Lo W.heap.size) W (g p.2) p.1 ∧ φ p.2 ∧ f0 p.2 ≤ bk (elems[i.1]'(by have := i.2; omega)).1 := by
   intro ⟨i, hi⟩
   have h1 := hels i hi
   rw [List.getElem?_eq_getElem (by omega), hc] at h1
   obtain ⟨cs', h2, h3⟩ := Option.bind_eq_some_iff.1 h1
   obtain ⟨y, hy, hφ⟩ := hel n cs' _ (by omega) h3
   exact ⟨(cs', y), h2, hy, hφ⟩
  let F : Fin len → List Value × α := fun i => Classical.choose (hone i)
  have hF : ∀ i : Fin len, W.cells? base (a.add (i.1 * sz)) sz = some (F i).1 ∧ Rep (Lo W.heap.size) W (g (F i).2) (F i).1 ∧ φ (F i).2 ∧ f0 (F i).2 ≤ bk (elems[i.1]'(by have := i.2; omega)).1 := fun i => Classical.choose_spec (hone i)
  let f : Nat → List Value := fun i => if hi : i < len then (F ⟨i, hi⟩).1 else []
  let l : List α := List.ofFn fun i => (F i).2
  have hll : l.length = len := by simp [l]
  have hφ : ∀ y ∈ l, φ y := by
   intro y hy
   obtain ⟨i, hi⟩ := (List.mem_ofFn).1 hy
   rw [← hi]; exact (hF i).2.2.1
  have hsum : (l.map f0).sum + 1 ≤ bk (.slice (elems.map (·.1)) (rest.map (·.1))) := by
   refine Nat.le_trans (Nat.succ_le_succ (sum_le (l.map f0) ((elems.map (·.1)).map bk) (by simp [hll, hlen]) (fun i hi hi' => ?_))) (hsl _ _)
   have hi2 : i < len := by simpa [hll] using hi
   have := (hF ⟨i, hi2⟩).2.2.2
   simpa [l] using this
  refine ⟨l, _, rfl, by rw [hll]; omega, ?_, hφ, hsum⟩
  simp only [Sq, Rep]
  refine ⟨some a, cap, by simp [hll], by simpa [hll] using hle, ?_⟩
  by_cases hpos : 0 < len
  ·have hfi : ∀ i, i < len → (f i).length = sz ∧ ∀ j v, (f i)[j]? = some v → W.cell? ((a.add (i * sz)).add j) = some v := by
    intro i hi
    have h1 := (hF ⟨i, hi⟩).1
    have h2 := World.cells?_some h1
    simp only [f, dif_pos hi]
    refine ⟨h2.2.1, fun j v hj => ?_⟩
    have := h2.2.2 j (by have := (List.getElem?_eq_some_iff.1 hj).1; omega)
    rw [this]; exact hj
   obtain ⟨b, off, rfl, hlt, hcells⟩ := row_at hsz hpos hfi
   refine .inr ⟨b, off, _, rfl, hlt, hcells, ?_⟩
   have hreps : ∀ n, n ≤ len → Reps (Lo W.heap.size) W ((l.take n).map g) ((List.range n).flatMap f) := by
    intro n
    induction n with
    | zero => intro _; simp [Reps]
    | succ n ih =>
     intro hn
     have hnl : n < l.length := by omega
     rw [List.take_succ_eq_append_getElem hnl, List.map_append, List.range_succ, List.flatMap_append]
     refine (Reps.app _ _ _).2 ⟨_, _, rfl, ih (by omega), ?_⟩
     simp only [List.map_cons, List.map_nil, List.flatMap_cons, List.flatMap_nil, List.append_nil, Reps]
     refine ⟨f n, [], by simp, ?_, rfl⟩
     have hln : l[n] = (F ⟨n, by omega⟩).2 := by simp [l]
     have hfn : f n = (F ⟨n, by omega⟩).1 := by simp only [f]; rw [dif_pos (by omega)]
     rw [hln, hfn]; exact (hF ⟨n, by omega⟩).2.1
   have := hreps len (Nat.le_refl _)
   rwa [List.take_of_length_le (by omega)] at this
  ·have : l = [] := List.length_eq_zero_iff.1 (by omega)
   left; rw [this]; rfl
end
end Go.Proofs.YtlmnaffhadeolaaGreatDoor

namespace Go.Proofs.YtlmnaffhadeolaaGreatDoor
open Go Go.RowKit Go.ChangeShapes Go.WideShapes Go.ChangeAt
theorem co_i64 : Tryz.prog.cellsOf 2 = 1 := by kernel_rfl
theorem co_u8 : Tryz.prog.cellsOf 5 = 1 := by kernel_rfl
theorem co_u32 : Tryz.prog.cellsOf 77 = 1 := by kernel_rfl
theorem co_bool : Tryz.prog.cellsOf 4 = 1 := by kernel_rfl
theorem co_bytes : Tryz.prog.cellsOf 22 = 1 := by kernel_rfl
theorem co_trees : Tryz.prog.cellsOf 23 = 1 := by kernel_rfl
theorem co_tags : Tryz.prog.cellsOf 24 = 1 := by kernel_rfl
theorem co_tree : Tryz.prog.cellsOf 26 = 5 := by kernel_rfl
theorem co_tag : Tryz.prog.cellsOf 79 = 2 := by kernel_rfl
theorem len2 {α : Type} {l : List α} (h : l.length = 2) : ∃ a b, l = [a, b] := by
 match l, h with
 | [a, b], _ => exact ⟨a, b, rfl⟩
theorem len5 {α : Type} {l : List α} (h : l.length = 5) : ∃ a b c d e, l = [a, b, c, d, e] := by
 match l, h with
 | [a, b, c, d, e], _ => exact ⟨a, b, c, d, e, rfl⟩
section
set_option maxRecDepth 100000
variable {H : Type} {enc : TypeId × Value → H} {W : World} {base : Nat} {spare : Nat → Bool} {held : Bool}
theorem bk_all {l : List (DataW H)} : Rows.uptoBulkAll l = (l.map Rows.uptoBulk).sum := by
 induction l with
 | nil => rfl
 | cons x l ih => simp only [Rows.uptoBulkAll, List.map_cons, List.sum_cons, ih]
theorem bk_sl (es sp : List (DataW H)) : (es.map Rows.uptoBulk).sum + 1 ≤ Rows.uptoBulk (.slice es sp) := by
 simp only [Rows.uptoBulk, bk_all]; omega
theorem bk_agg (es : List (DataW H)) : (es.map Rows.uptoBulk).sum + 1 ≤ Rows.uptoBulk (.agg es) := by
 simp only [Rows.uptoBulk, bk_all]; omega
theorem bk_int (k : IntKind) (n : Int) : 1 ≤ Rows.uptoBulk (H := H) (.lit (.int k n)) := by simp [Rows.uptoBulk]
theorem bk_nil : 1 ≤ Rows.uptoBulk (H := H) .nil := by simp [Rows.uptoBulk]
theorem wts_sum (l : List Tree) : Tree.wts l = (l.map Tree.wt).sum := by
 induction l with
 | nil => rfl
 | cons x l ih => simp only [Tree.wts, List.map_cons, List.sum_cons, ih]
theorem ones_sum {α : Type} (l : List α) : (l.map fun _ => 1).sum = l.length := by
 induction l with
 | nil => rfl
 | cons x l ih => simp only [List.map_cons, List.sum_cons, List.length_cons, ih]; omega
theorem open_bytes {fuel : Nat} {cs : List Value} {x : DataW H × List MemPlace} (h : DataW.trod enc Tryz.prog W base spare held fuel 22 cs = some x) :
  ∃ (s : List UInt8) (v : Value), cs = [v] ∧ s.length ≤ maxLen ∧ Sq W.heap.size W v (s.map byteD) ∧ s.length + 1 ≤ Rows.uptoBulk x.1 := by
 obtain ⟨l, v, h1, h2, h3, _, h5⟩ := open_sq (e := 5) (sz := 1) Tryz.underlying22 co_u8 (by omega) byteD (fun _ => True) (fun _ => 1) Rows.uptoBulk bk_nil bk_sl h (fun n cs' x' _ hx => by
  obtain ⟨m, rfl, hxe, hw⟩ := DataW.trod_int Tryz.underlying5 hx
  have hm : 0 ≤ m ∧ m ≤ 255 := by simpa [Lit.wf, IntKind.min, IntKind.max, IntKind.signed, IntKind.bits] using hw
  refine ⟨UInt8.ofNat m.toNat, ?_, trivial, by rw [hxe]; exact bk_int _ _⟩
  simp only [byteD, Rep]
  rw [byteNat _ (by omega)]
  congr 2
  omega)
 rw [ones_sum] at h5
 exact ⟨l, v, h1, h2, h3, h5⟩
theorem open_tags {fuel : Nat} {cs : List Value} {x : DataW H × List MemPlace} (h : DataW.trod enc Tryz.prog W base spare held fuel 24 cs = some x) :
  ∃ (u : List (Nat × List UInt8)) (v : Value), cs = [v] ∧ u.length ≤ maxLen ∧ Sq W.heap.size W v (u.map tagD) ∧ (∀ kv ∈ u, kv.1 < 4294967296) ∧ tagsW u + 1 ≤ Rows.uptoBulk x.1 := by
 refine open_sq (e := 79) (sz := 2) Tryz.underlying24 co_tag (by omega) tagD (fun kv => kv.1 < 4294967296) (fun kv => kv.2.length + 1) Rows.uptoBulk bk_nil bk_sl h (fun n cs' x' _ hx => ?_)
 obtain ⟨xs, k, _, rfl, hl, hlen, hf⟩ := DataW.trod_struct Tryz.underlying79 hx
 rw [co_tag] at hl
 obtain ⟨v0, v1, rfl⟩ := len2 hl
 ·have hxl : xs.length = 2 := hlen
  have h0 := hf 0 _ rfl
  have h1 := hf 1 _ rfl
  rw [List.getElem?_eq_getElem (by omega)] at h0 h1
  simp [co_u32, co_bytes] at h0 h1
  obtain ⟨m, hv0, _, hw⟩ := DataW.trod_int Tryz.underlying77 h0
  obtain ⟨s, v, hv1, _, hs, hsb⟩ := open_bytes h1
  have hm : 0 ≤ m ∧ m ≤ 4294967295 := by simpa [Lit.wf, IntKind.min, IntKind.max, IntKind.signed, IntKind.bits] using hw
  simp only [List.cons.injEq, and_true] at hv0 hv1
  subst hv0; subst hv1
  refine ⟨(m.toNat, s), ?_, by simp only []; omega, ?_⟩
  rotate_left
  ·obtain ⟨a, b, rfl⟩ := len2 hxl
   ·have := bk_agg [a.1, b.1]
    simp only [List.map_cons, List.map_nil, List.sum_cons, List.sum_nil, List.getElem_cons_succ, List.getElem_cons_zero] at this hsb ⊢
    omega
  have : (.int .u32 m : Value) = .int .u32 ((m.toNat : Nat) : Int) := by congr 1; omega
  rw [this]
  exact rep_tag hs
theorem open_tree : ∀ (fuel : Nat) (cs : List Value) (x : DataW H × List MemPlace), DataW.trod enc Tryz.prog W base spare held fuel 26 cs = some x →
  ∃ t : Tree, Rep (Lo W.heap.size) W (treeD t) cs ∧ t.ok ∧ t.wt ≤ Rows.uptoBulk x.1 := by
 intro fuel
 induction fuel using Nat.strongRecOn with
 | _ fuel ih =>
  intro cs x h
  obtain ⟨xs, k, hfu, rfl, hl, hlen, hf⟩ := DataW.trod_struct Tryz.underlying26 h
  rw [co_tree] at hl
  obtain ⟨v0, v1, v2, v3, v4, rfl⟩ := len5 hl
  ·have hxl : xs.length = 5 := hlen
   have h0 := hf 0 _ rfl
   have h1 := hf 1 _ rfl
   have h2 := hf 2 _ rfl
   have h3 := hf 3 _ rfl
   have h4 := hf 4 _ rfl
   rw [List.getElem?_eq_getElem (by omega)] at h0 h1 h2 h3 h4
   simp [co_i64, co_bytes, co_bool, co_trees, co_tags] at h0 h1 h2 h3 h4
   obtain ⟨n, hv0, hb0, hw0⟩ := DataW.trod_int Tryz.underlying2 h0
   obtain ⟨s, sv, hv1, hsl, hs, hb1⟩ := open_bytes h1
   obtain ⟨b, hv2, hb2⟩ := DataW.trod_bool Tryz.underlying4 h2
   obtain ⟨l, lv, hv3, _, hl3, hok, hb3⟩ := open_sq (e := 26) (sz := 5) Tryz.underlying23 co_tree (by omega) treeD (fun t => t.ok) Tree.wt Rows.uptoBulk bk_nil bk_sl h3 (fun n cs' x' hn hx => ih n (by omega) cs' x' hx)
   obtain ⟨u, uv, hv4, _, hu, huk, hb4⟩ := open_tags h4
   simp only [List.cons.injEq, and_true] at hv0 hv1 hv2 hv3 hv4
   subst hv0; subst hv1; subst hv2; subst hv3; subst hv4
   refine ⟨.mk n s b l u, rep_tree hs hl3 hu, ?_, ?_⟩
   rotate_left
   ·obtain ⟨a0, a1, a2, a3, a4, rfl⟩ := len5 hxl
    ·have := bk_agg [a0.1, a1.1, a2.1, a3.1, a4.1]
     simp only [List.map_cons, List.map_nil, List.sum_cons, List.sum_nil, List.getElem_cons_succ, List.getElem_cons_zero] at this hb0 hb1 hb2 hb3 hb4 ⊢
     simp only [Tree.wt, wts_sum]
     omega
   simp only [Tree.ok]
   refine ⟨by simp only [maxLen] at hsl; omega, huk, ?_, by simpa [Lit.wf, IntKind.min, IntKind.max, IntKind.signed, IntKind.bits] using hw0⟩
   have : ∀ l : List Tree, (∀ t ∈ l, t.ok) → Tree.oks l := by
    intro l
    induction l with
    | nil => intro _; simp [Tree.oks]
    | cons y l ih2 => intro h; simp only [Tree.oks]; exact ⟨h y (by simp), ih2 (fun t ht => h t (by simp [ht]))⟩
   exact this l hok
end
end Go.Proofs.YtlmnaffhadeolaaGreatDoor

namespace Go.Proofs.YtlmnaffhadeolaaGreatDoor.BProduceRequest
open Go Go.RowKit Go.ChangeShapes Go.WideShapes Go.ChangeAt
theorem own : ownKnob Tryz.prog.godebug = none := by kernel_rfl
theorem laidOut : laidOutB Tryz.prog = true := by kernel_rfl
theorem gErr : Tryz.prog.globalNamed "pub-mailsack/pub/kmsg/inner/kbin.ErrNotEnoughData" = some 1 := by kernel_rfl
theorem gErrT : (Tryz.prog.globals[(1 : Nat)]?).map (·.type) = some 68 := by kernel_rfl
theorem err_of_laid {W : World} (h : laidMetH Tryz.prog Rows.fnBehindProduceRequestRow.laid W) : ∃ ev, W.cell? ⟨1, 0, none⟩ = some ev := by
  have h' : laidMet Tryz.prog Rows.fnBehindProduceRequestRow.laid W := h
  obtain ⟨ps, ⟨g0, t0, cs0, f0, p0, q0, hg0, ht0, hv0, hd0, _⟩, _⟩ := h'
  obtain rfl := Option.some.inj (gErr.symm.trans hg0)
  obtain rfl := Option.some.inj (gErrT.symm.trans ht0)
  obtain ⟨l0⟩ := cs0
  obtain ⟨fu, u, v, e, _, _⟩ := iface_of_trod Tryz.underlying68 hd0
  have e' : l0 = [.iface u v] := e
  subst e'
  exact ⟨_, by simpa using World.var?_cell hg0 hv0 0⟩
abbrev errText : ByteArray := ⟨#[114, 101, 115, 112, 111, 110, 115, 101, 32, 100, 105, 100, 32, 110, 111, 116, 32, 99, 111, 110, 116, 97, 105, 110, 32, 101, 110, 111, 117, 103, 104, 32, 100, 97, 116, 97, 32, 116, 111, 32, 98, 101, 32, 118, 97, 108, 105, 100]⟩
noncomputable def low : Nat := (World.holding Tryz.prog default ⟨#[], #[], []⟩).heap.size
noncomputable def laidWorld (os : Os) : World :=
  let w0 := World.holding Tryz.prog os ⟨#[.cells #[.string errText] 241], #[], []⟩
  { w0 with heap := w0.heap.modify 1 fun
      | .cells _ t frozen => .cells #[.iface 223 (.pointer (some ⟨low, 0, none⟩))] t frozen
      | o => o }
theorem laidWorld_met (os : Os) (args : Array Value) : laidMetH Tryz.prog Rows.fnBehindProduceRequestRow.laid ((laidWorld os).forCall (fun _ _ => 0) ⟨#[], args, []⟩).memory :=
  show laidMet Tryz.prog Rows.fnBehindProduceRequestRow.laid _ from laidMet_of_run' 8 (by kernel_rfl) (by kernel_rfl)
theorem reads (os : Os) {H : Type} (enc : TypeId × Value → H) : ∃ places, DataW.whole enc Tryz.prog ((laidWorld os).forCall (fun _ _ => 0) ⟨#[], #[.int .u8 0, .slice none 0 0, .agg #[.int .i64 0, .slice none 0 0, .bool false, .slice none 0 0, .slice none 0 0]], []⟩).memory Tryz.f5.params.toList Rows.fnBehindProduceRequestSpec.vars false #[Value.int .u8 0, .slice none 0 0, .agg #[.int .i64 0, .slice none 0 0, .bool false, .slice none 0 0, .slice none 0 0]].toList 8 = some ([.lit (.int .u8 0), .nil, .agg [.lit (.int .i64 0), .nil, .lit (.bool false), .nil, .nil]], [], places) := ⟨[], by kernel_rfl⟩
set_option maxRecDepth 100000 in
theorem lifted (os : Os) (started : os.Started) (H : Type) (enc : TypeId × Value → H) (F : Stop.Interp) :
    ReturnsInHanded {} Tryz.checked os 5 .any ((Rows.OpenSpec.upto Rows.fnBehindProduceRequestSpec).preRow enc Tryz.prog Tryz.f5 Rows.fnBehindProduceRequestUptoRow.domain false Rows.fnBehindProduceRequestUptoRow.laid) (((Rows.OpenSpec.upto Rows.fnBehindProduceRequestSpec).at F).post enc Tryz.prog Tryz.f5 false true false false) := by
  obtain ⟨places, hx⟩ := reads os enc
  refine returnsInHanded_of_row (C := Tryz.checked) (s := Rows.OpenSpec.upto Rows.fnBehindProduceRequestSpec) own started (by kernel_rfl) Tryz.func5
    (witness_row_atRef (enc := enc) (C := Tryz.checked) false (laidWorld os) #[.int .u8 0, .slice none 0 0, .agg #[.int .i64 0, .slice none 0 0, .bool false, .slice none 0 0, .slice none 0 0]] rfl (by kernel_rfl) (by kernel_rfl) (by kernel_rfl)
      (OpenSpec.preRow_of_cond 8 hx (by kernel_rfl) (fun k hk => by cases hk; kernel_rfl) (by kernel_rfl) (laidWorld_met os _))) ?_
  intro W base args ds gs before hval0 hW _ hcond _ hL _ _
  have hsmall := of_decide_eq_true (hcond _ rfl)
  suffices key : Calls Tryz.prog 5 args W fun e W' => ∃ v, e = .returned v ∧ Rows.fnBehindProduceRequestSpec.post enc Tryz.prog Tryz.f5 false true false false W args v W' from key
  have hval : ∀ (j : Nat) t v, Tryz.f5.params[j]? = some t → args[j]? = some v → Value.okWide Tryz.prog W .any base t v := hval0
  have hW' := hW
  obtain ⟨p, q, hA0, hV, rfl, hfz, hnd⟩ := hW
  have hA : DataW.TrodAll enc Tryz.prog W 0 (fun _ => true) true Tryz.f5.params.toList args.toList ds p := hA0
  rw [Tryz.params5] at hA hval
  obtain ⟨v0, v1, v2, d0, d1, d2, p0, p1, p2, rfl, rfl, rfl, h0, h1, h2⟩ := trodAll_three hA
  obtain ⟨rfl, rfl⟩ := trodVars_none hV
  obtain ⟨a, rfl, rfl, rfl, wa⟩ := open_int Tryz.underlying5 (hval 0 5 v0 rfl rfl) h0
  obtain ⟨sa, sl, sc, rfl⟩ := okWide_slice Tryz.underlying22 (hval 1 22 v1 rfl rfl)
  have hv2 := hval 2 26 v2 rfl rfl
  unfold Value.okWide at hv2
  rw [Tryz.underlying26] at hv2
  obtain ⟨cs, rfl, _⟩ := hv2
  obtain ⟨fuel1, hf1⟩ := id h1
  obtain ⟨xs, xv, hxv, _, hxs, _⟩ := open_bytes hf1
  have hxv' : Value.slice sa sl sc = xv := by
    have h : [Value.slice sa sl sc] = [xv] := hxv
    simpa using h
  subst hxv'
  obtain ⟨fuel, hfu⟩ := id h2
  obtain ⟨t, hrep, hok, hwt⟩ := open_tree fuel _ _ hfu
  obtain ⟨ev, hev⟩ := err_of_laid hL
  clear hA0 hval0
  simp only [List.append_nil, List.nil_append] at hW'
  have ha : 0 ≤ a ∧ a ≤ 255 := by simpa [Lit.wf, IntKind.min, IntKind.max, IntKind.signed, IntKind.bits] using wa
  have hsm : t.wt ≤ 1048576 := by simp only [List.append_nil, List.cons_append, List.nil_append, Rows.uptoBulkAll] at hsmall; simp only [] at hwt; omega
  have hlaw := fn_law a.toNat (by omega) xs t hok hsm W ev (.slice sa sl sc) cs.toList hxs.bytes hrep hev
  rw [show ((a.toNat : Nat) : Int) = a from by omega] at hlaw
  simp only [Array.toArray_toList] at hlaw
  refine Calls.mono hlaw fun e W' he => ?_
  obtain ⟨v, rfl, hb, rfl⟩ := he
  refine ⟨_, rfl, _, _, _, [], ([] ++ p1 ++ p2), [], hW', trodAll_mk1 (shut_bool Tryz.underlying4 _), ?_, ?_, hb.frame _, fun h => by cases h⟩
  · exact trodAll_mk3 (shut_int Tryz.underlying5 wa) (Below.trod laidOut (by kernel_rfl) (Nat.le_of_ble_eq_true (by kernel_rfl)) h1 hb (fun x hx => hW'.lt x (List.mem_append_left _ hx))) (Below.trod laidOut (by kernel_rfl) (Nat.le_of_ble_eq_true (by kernel_rfl)) h2 hb (fun x hx => hW'.lt x (List.mem_append_right _ hx)))
  · rfl
theorem said : Rows.FnBehindProduceRequestUptoSaid :=
  OpenClaim.holds_of_cond 5 Tryz.f5 rfl rfl rfl rfl rfl rfl rfl ⟨rfl, rfl, rfl, rfl, rfl⟩ rfl rfl rfl rfl rfl (by kernel_rfl) Tryz.func5 (by kernel_rfl)
    (of_decide_eq_true (by kernel_rfl)) (by unfold Func.isWrapper; first | (rw [if_pos (by decide +kernel)]; kernel_rfl) | (rw [if_neg (by decide +kernel)]; exact ⟨rfl, rfl⟩))
    (fun os started H enc _ F => by rw [OpenClaim.pre_eq_preRow]; exact lifted os started H enc F)
theorem row_tie : Rows.fnBehindProduceRequestUptoRow.laidByTextAt .later Tryz.pinned [.sentinel] true :=
  OpenClaim.laidByTextAt_later rfl rfl tie (by kernel_rfl)
theorem holds : Rows.FnBehindProduceRequestUptoCardSaid :=
  Claim7.holds_tied_plain_at .later [] [.sentinel] true (true, "951202c2ee62a2485c2c11205be3cb855fe0e9b9b0ed7893dd37afa4e79e5067") false
    said (fun _ h => by cases h) (by kernel_rfl) (fun _ h => by cases h) row_tie rfl ⟨rfl, rfl⟩ (by kernel_rfl) rfl
    (fun f fn hf hfn => by
      obtain rfl : f = 5 := Option.some.inj ((show Tryz.prog.funcNamed "pub-mailsack/laws.FnBehindProduceRequest" = some 5 by kernel_rfl).symm.trans hf) |>.symm
      obtain rfl : fn = Tryz.f5 := (Option.some.inj (Tryz.func5.symm.trans hfn)).symm
      exact ⟨by kernel_rfl, fun j t ht => by
        rw [Tryz.params5] at ht
        have hh : Tryz.prog.wantsStandIn 5 = false ∧ Tryz.prog.wantsStandIn 22 = false ∧ Tryz.prog.wantsStandIn 26 = false := ⟨by kernel_rfl, by kernel_rfl, by kernel_rfl⟩
        match j, ht with
        | 0, ht => obtain rfl : 5 = t := by simpa using ht
                   exact hh.1
        | 1, ht => obtain rfl : 22 = t := by simpa using ht
                   exact hh.2.1
        | 2, ht => obtain rfl : 26 = t := by simpa using ht
                   exact hh.2.2
        | j + 3, ht => simp at ht⟩)
    (by kernel_rfl)
end Go.Proofs.YtlmnaffhadeolaaGreatDoor.BProduceRequest
