/- A part of the proof of FnBehindProduceRequestUptoCardSaid: what its texts prove stands at the head of each. Conditions: those that each theorem names. -/
import Derived.Test.YtlmnaffhadeolaaGreatDoorPartB
import Derived.Deep.LoopGhost
import Derived.Test.YtlmnaffhadeolaaGreatDoorPartA
import Derived.Maps.RangeRun
import Derived.Test.YtlmnaffhadeolaaGreatDoorProg
set_option linter.all false
namespace Go.Proofs.YtlmnaffhadeolaaGreatDoor
open Go Go.RowKit
theorem zeroCells_flat (zc : List Value) (hz : 0 < zc.length) : ∀ n, (Builtin.zeroCells zc.toArray n).toList = (List.replicate n zc).flatten
 | 0 => by simp [Builtin.zeroCells]
 | n + 1 => by
  have ih := zeroCells_flat zc hz n
  rw [List.replicate_succ', List.flatten_append, ← ih]
  simp only [Builtin.zeroCells, Array.toList_map, Array.toList_range, List.size_toArray, List.flatten_cons, List.flatten_nil, List.append_nil]
  rw [Nat.succ_mul, List.range_add, List.map_append, List.map_map]
  congr 1
  apply List.ext_getElem
  ·simp
  ·intro i h1 h2
   simp only [List.getElem_map, List.getElem_range, Function.comp]
   rw [Nat.add_comm, Nat.add_mul_mod_self_right, Nat.mod_eq_of_lt h2]
   simp [h2]
theorem zerosOf_out {P : Program} {t : TypeId} {zc : List Value} (h : zerosOf P t = some zc) : ∃ e i z, P.underlying t = some (.slice e) ∧ P.info? e = some i ∧ i.zero = some z ∧ z.cells.toList = zc ∧ zc.length = i.size ∧ 0 < zc.length ∧ i.bytes ≤ 1024 ∧ (zc.all fun v => v.oneCell') = true := by
 unfold zerosOf at h
 split at h
 ·rename_i e he
  split at h
  ·rename_i i hi
   split at h
   ·rename_i z hz
    cases hc : z.cells.toList.all (·.oneCell') && Nat.beq z.cells.size i.size && Nat.blt 0 i.size && Nat.ble i.bytes 1024 with
    | false => rw [hc] at h; cases h
    | true =>
     rw [hc] at h
     simp only [cond_true, Option.some.injEq] at h
     simp only [Bool.and_eq_true] at hc
     have h1 := beq_out hc.1.1.2
     have h2 := Nat.le_of_ble_eq_true hc.1.2
     have hl : zc.length = i.size := by rw [← h, Array.length_toList]; exact h1
     exact ⟨e, i, z, he, hi, hz, h, hl, by omega, Nat.le_of_ble_eq_true hc.2, by rw [← h]; exact hc.1.1.1⟩
   ·cases h
  ·cases h
 ·cases h
theorem lenP_lt {c : Bool} {s : List UInt8} {x : Int × List UInt8} (h : lenP c s = some x) : x.1 < 2147483648 := by
 simp only [lenP, Option.bind_eq_some_iff] at h
 obtain ⟨y, hy, hx⟩ := h
 split at hx
 ·cases hx
 ·cases hx
  split at hy
  ·simp only [Option.map_eq_some_iff] at hy
   obtain ⟨z, _, rfl⟩ := hy
   simp only [IntKind.wrap_i32]
   omega
  ·simp only [intP, Option.map_eq_some_iff] at hy
   obtain ⟨z, _, rfl⟩ := hy
   simp only [IntKind.wrap_i32]
   omega
theorem run_appMake {P : Program} (w : World) {t u ty : TypeId} {zc : List Value} {l : Int} (hz : zerosOf P t = some zc) (hu : isInt P u .i32 = true) (hl : 0 < l) (hlim : l ≤ 4294967296) :
  ∃ cap e, l.toNat ≤ cap ∧ (Builtin.append_ #[t, u] ty #[.slice none 0 0, .int .i32 l]).run P w = .ok (.slice (some ⟨w.heap.size, 0, none⟩) l.toNat cap) (w.drew.alloc (.cells ((List.replicate cap zc).flatten).toArray e)) := by
 obtain ⟨e, i, z, ht, hi, hzz, hzc, hlen, hpos, hb, _⟩ := zerosOf_out hz
 have hu' := isInt_out hu
 have hwrap : IntKind.i64.wrap l = l := by rw [IntKind.wrap_i64]; omega
 have hneg : ¬ l < 0 := by omega
 have hcap := grownCap_ge w l.toNat 0 e
 have hmul : l.toNat * i.bytes ≤ 4294967296 * 1024 := Nat.mul_le_mul (by omega) hb
 have hmulI : ¬ ((281474976710656 : Int) < l * (i.bytes : Int)) := by
  have : l * (i.bytes : Int) = ((l.toNat * i.bytes : Nat) : Int) := by rw [Int.natCast_mul, Int.toNat_of_nonneg (by omega)]
  rw [this]; omega
 have h48 : ¬ (281474976710656 < Builtin.nextslicecap l.toNat 0 * i.bytes) := by
  rw [nextslicecap_zero (by omega)]; omega
 have hza : z.cells = zc.toArray := by rw [← hzc]
 have hmx : max l 0 = l := by omega
 have hle0 : ¬ l ≤ 0 := by omega
 have h63l : ¬ (9223372036854775807 : Int) < l := by omega
 refine ⟨grownCap w l.toNat 0 e, e, by omega, ?_⟩
 have hns : ¬ l.toNat * i.size = 0 := by rw [← hlen]; exact Nat.ne_of_gt (Nat.mul_pos (by omega) hpos)
 have hall : Builtin.zeroCells zc.toArray l.toNat ++ Builtin.zeroCells zc.toArray (grownCap w l.toNat 0 e - l.toNat) = ((List.replicate (grownCap w l.toNat 0 e) zc).flatten).toArray := by
  apply Array.ext'
  rw [Array.toList_append, zeroCells_flat zc hpos, zeroCells_flat zc hpos, ← List.flatten_append, List.replicate_append_replicate]
  congr 2; omega
 rw [← hall]
 simp [Builtin.append_, run_underlying ht, run_underlying hu', sizeOf, typeInfo, zeroValue, hi, hzz, h48, Question.forced, run_firstCells_none, newRow, grownCap, asInt, asIntOf, hwrap, hneg, hmulI, hza, hmx, hle0, h63l]
 exact fun h => absurd h hns
section
variable {P : Program} {K : Kr} {N g rb sb : Nat} {ev : Value} {k : Nat} {rows : List (Nat × Nat × Nat)} {zs : List (Nat × List Value)} {S : RS} {Ad : List (Nat × Nat)} {R : List Value} {I : List Int} {it : Wi} {sst st0 st : Option (List UInt8)} {a : Act} {w : World}
theorem fr_of {R : List Value} {v : Value} {w w' : World} (hc : Chg (fun _ => False) w w') : Fr rb it it R (R ++ [v]) w w' := ⟨rfl, rfl, rfl, rfl, rfl, hc.wide (fun _ h => h.elim), [v], rfl⟩
theorem lz_ok (H : RAt N g rb sb ev k rows zs S Ad R I it sst st0 st a w) {q : Operand} {h l t u : Nat} {c : Bool} {cd : Code} (hq0 : evW S.A q = some (.res h)) (hh : hiAt S h = some (.lz l)) (hpd : S.pd = .len c l none) (hn : nilR P N S.A cd = some (t, u)) {Q : Exit → Act → World → Prop}
  (hq : ∀ v a' w', Fr rb it it R (R ++ [v]) w w' → RAt N g rb sb ev k rows zs { (({ S with A := dropW (dropW S.A u) t } : RS).new t (.sl0 l)) with pd := .len c l (some S.H.length) } Ad (R ++ [v]) I it sst st0 st a' w' → Q .normal a' w') : (Code.cond q cd .skip).wp P Q a w := by
 have hd := H.kn.eval hq0
 simp only [denW] at hd
 obtain ⟨l0, hl0, hval⟩ := H.ho.2 h _ _ hh hd
 have hp := H.pd
 rw [hpd] at hp
 obtain ⟨l1, hl1, hrel, _⟩ := hp
 rw [hl0] at hl1
 simp only [Option.some.injEq, Value.int.injEq, true_and] at hl1
 subst hl1
 unfold nilR at hn
 split at hn
 ·rename_i id ua ty y1 p1 f1 ub ua2 y2 p2 f2
  cases hc : Nat.beq ua ua2 && Nat.blt ua N && Nat.blt ub N && sliceTy P ty && isNil0 S.A ub && !Nat.beq ua ub with
  | false => rw [hc] at hn; cases hn
  | true =>
   rw [hc] at hn
   simp only [cond_true, Option.some.injEq, Prod.mk.injEq] at hn
   obtain ⟨rfl, rfl⟩ := hn
   simp only [Bool.and_eq_true] at hc
   obtain ⟨⟨⟨⟨⟨h1, h2⟩, h3⟩, h4⟩, h5⟩, h6⟩ := hc
   have := beq_out h1; subst this
   have hne : ua ≠ ub := by rintro rfl; rw [Nat.beq_refl] at h6; cases h6
   have hnil : gt a ub = .slice none 0 0 := by
    unfold isNil0 at h5
    split at h5
    ·rename_i hx
     have := H.kn.at_ ub _ hx
     simp only [denW, Option.some.injEq] at this
     exact this.symm
    ·cases h5
   by_cases h0 : l0 = 0
   ·subst h0
    refine wp_cond_true hval ?_
    unfold sliceTy elemSize at h4
    split at h4
    ·rename_i e he
     cases hi : P.info? e with
     | none => rw [hi] at h4; simp at h4
     | some inf =>
      have hrun : (execOp a.eval ⟨some ua, .buildSlice ty 0 #[], y1, p1, f1, none⟩).run P w = .ok (.value (.slice (some ⟨w.heap.size, 0, none⟩) 0 0)) (w.alloc (.cells #[] e)) := by
       simp [execOp, Instr.buildSlice, run_underlying he, sizeOf, typeInfo, hi, newRow, Instr.fill]
       rw [show Array.range 0 = #[] from rfl, Array.map_empty]
      have hal : Chg (fun _ => False) w (w.alloc (.cells #[] e)) := chg_alloc w _ _
      refine wp_region_lit (st_of (o := ⟨some ua, .buildSlice ty 0 #[], y1, p1, f1, none⟩) rfl hrun (st_assign ?_))
      have k1 := H.kn.putOff (t := ua) (.slice (some ⟨w.heap.size, 0, none⟩) 0 0)
      have e1 : gt (a.put (some ua) (.slice (some ⟨w.heap.size, 0, none⟩) 0 0)) ua = .slice (some ⟨w.heap.size, 0, none⟩) 0 0 := gt_put_same _ _ _ (by rw [H.kn.size]; exact Nat.le_of_ble_eq_true h2)
      rw [eval_tmp, e1]
      refine hq (.slice (some ⟨w.heap.size, 0, none⟩) 0 0) _ _ (fr_of hal) ?_
      have k2 := k1.putOff (t := ub) (.slice (some ⟨w.heap.size, 0, none⟩) 0 0)
      refine H.next hal ⟨_, _, rfl⟩ trivial (A := dropW (dropW S.A ua) ub) k2 ?_ ?_
      ·exact gt_put_same _ _ _ (by rw [k1.size]; exact Nat.le_of_ble_eq_true h3)
      ·refine ⟨0, get_more hl0, hrel, fun h => absurd rfl h, fun _ => ⟨w.heap.size, ?_, ⟨.inr H.lo.2.2.2, by simp⟩, ⟨#[], e, (0, 0), heap_alloc_new w _, by simp, by simp⟩⟩⟩
       rw [← H.ho.1]; simp
    ·cases h4
   ·have hval' : a.eval q = .bool false := by rw [hval]; simp [h0]
    refine wp_cond_false hval' (wp_skip ?_)
    refine hq (.slice none 0 0) a w (fr_of (Chg.refl _ _)) ?_
    refine H.next (Chg.refl _ _) ⟨_, _, rfl⟩ trivial (H.kn.weak (lessW_trans (lessW_drop _ _) (lessW_drop _ _))) hnil ⟨l0, get_more hl0, hrel, fun _ => ?_, fun h => absurd h h0⟩
    rw [← H.ho.1]; simp
 ·cases hn
theorem lp_ok (H : RAt N g rb sb ev k rows zs S Ad R I it sst st0 st a w) {q : Operand} {h l t x y u ty : Nat} {c : Bool} {z z' : Option Nat} {zc : List Value} {cd : Code} (hq0 : evW S.A q = some (.res h)) (hh : hiAt S h = some (.lp l)) (hpd : S.pd = .ok c l z) (hn : madeR P N S l cd = some (t, x, y, u, z')) (hty : madeTy cd = some ty) (hzc : zerosOf P ty = some zc) (hzz : optEq z z' = true) {Q : Exit → Act → World → Prop}
  (hq : ∀ v a' w', Fr rb it it R (R ++ [v]) w w' → RAt N g rb sb ev k rows ((S.H.length, zc) :: zs) { (({ S with A := dropW (dropW (dropW (dropW S.A x) y) u) t } : RS).new t (.row l)) with pd := .made c l z S.H.length } Ad (R ++ [v]) I it sst st0 st a' w' → Q .normal a' w') : (Code.cond q cd .skip).wp P Q a w := by
 have hd := H.kn.eval hq0
 simp only [denW] at hd
 obtain ⟨l0, hl0, hval⟩ := H.ho.2 h _ _ hh hd
 have hp := H.pd
 rw [hpd] at hp
 obtain ⟨l1, s1, hl1, hrel, hst, hzok⟩ := hp
 rw [hl0] at hl1
 simp only [Option.some.injEq, Value.int.injEq, true_and] at hl1
 subst hl1
 obtain ⟨_, _, _, _, _, _, _, hzlen, hzpos, _, hzone⟩ := zerosOf_out hzc
 have hlim : l0 ≤ 4294967296 := by
  subst hst
  cases st0 with
  | none => simp [LenRel] at hrel
  | some s0 =>
   simp only [LenRel] at hrel
   split at hrel
   ·rename_i p hp
    simp only [Option.some.injEq] at hrel
    have := lenP_lt hp
    rw [hrel.2]
    omega
   ·cases hrel
 unfold madeR at hn
 split at hn
 ·rename_i id tx tb y1 p1 f1 tyy ts y2 p2 f2 ta x2 yy2 t0 t32 y3 p3 f3 tb2 a2 y4 p4 f4
  cases hc : Nat.beq tx x2 && Nat.beq tyy yy2 && Nat.beq ta a2 && Nat.beq tb tb2 && Nat.blt tx N && Nat.blt tyy N && Nat.blt ta N && Nat.blt tb N && !Nat.beq tx tyy && sliceTy P t0 && isInt P t32 .i32 && isRes S.A ts l && !Nat.beq tx ts && !Nat.beq tx tb && !Nat.beq tyy tb && !Nat.beq ta tb with
  | false => rw [hc] at hn; cases hn
  | true =>
   rw [hc] at hn
   simp only [cond_true] at hn
   simp only [Bool.and_eq_true] at hc
   obtain ⟨⟨⟨⟨⟨⟨⟨⟨⟨⟨⟨⟨⟨⟨⟨g1, g2⟩, g3⟩, g4⟩, g5⟩, g6⟩, g7⟩, g8⟩, g9⟩, g10⟩, g11⟩, g12⟩, g13⟩, g14⟩, g15⟩, g16⟩ := hc
   have := beq_out g1; subst this
   have := beq_out g2; subst this
   have := beq_out g3; subst this
   have := beq_out g4; subst this
   have ne : ∀ p q : Nat, (!Nat.beq p q) = true → p ≠ q := by rintro p q h rfl; rw [Nat.beq_refl] at h; cases h
   simp only [madeTy, Option.some.injEq] at hty
   subst hty
   have hres : gt a ts = .int .i32 l0 := by
    unfold isRes at g12
    split at g12
    ·rename_i n hx
     have := beq_out g12; subst this
     have := H.kn.at_ ts _ hx
     simp only [denW] at this
     rw [hl0] at this
     simpa using this.symm
    ·cases g12
   have hslot : ∃ v0, gt a tb = v0 ∧ (l0 ≠ 0 → v0 = .slice none 0 0) ∧ (match z with | none => v0 = .slice none 0 0 | some zi => R[zi]? = some v0) ∧ (tb, tx, tyy, ta, z') = (t, x, y, u, z') := by
    split at hn
    ·rename_i hx
     cases hn
     have := H.kn.at_ _ _ hx
     simp only [denW, Option.some.injEq] at this
     have hzn : z = none := by cases z with | none => rfl | some _ => cases hzz
     subst hzn
     exact ⟨_, this.symm, fun _ => rfl, rfl, rfl⟩
    ·rename_i zi hx
     split at hn
     ·rename_i l' hzi
      cases hll : Nat.beq l l' with
      | false => rw [hll] at hn; cases hn
      | true =>
       rw [hll] at hn
       simp only [cond_true, Option.some.injEq, Prod.mk.injEq] at hn
       obtain ⟨rfl, rfl, rfl, rfl, rfl⟩ := hn
       cases z with
       | none => cases hzz
       | some zi' =>
        have := beq_out hzz; subst this
        have hg := H.kn.at_ tb _ hx
        simp only [denW] at hg
        refine ⟨gt a tb, rfl, fun h0 => ?_, hg, rfl⟩
        have := hzok.1 h0
        rw [hg] at this
        simpa using this
     ·cases hn
    ·cases hn
   obtain ⟨v0, hv0, hnz, hz0, hvars⟩ := hslot
   simp only [Prod.mk.injEq, and_true] at hvars
   obtain ⟨rfl, rfl, rfl, rfl⟩ := hvars
   by_cases hpos : 0 < l0
   ·have hval' : a.eval q = .bool true := by rw [hval]; simp [hpos]
    have hv0' := hnz (by omega)
    subst hv0'
    obtain ⟨cap, e, hcap, hrun⟩ := run_appMake (P := P) w (ty := y3) hzc g11 hpos hlim
    refine wp_cond_true hval' (wp_region_lit (st_move ?_))
    rw [eval_tmp, hv0]
    have k1 := H.kn.putOff (t := tx) (.slice none 0 0)
    have e1 : gt (a.put (some tx) (.slice none 0 0)) tx = .slice none 0 0 := gt_put_same _ _ _ (by rw [H.kn.size]; exact Nat.le_of_ble_eq_true g5)
    have e2 : gt (a.put (some tx) (.slice none 0 0)) ts = .int .i32 l0 := by rw [gt_put_ne _ _ _ _ (ne _ _ g13).symm]; exact hres
    generalize a.put (some tx) (.slice none 0 0) = b1 at *
    refine st_move ?_
    rw [eval_tmp, e2]
    have k2 := k1.putOff (t := tyy) (.int .i32 l0)
    have e3 : gt (b1.put (some tyy) (.int .i32 l0)) tx = .slice none 0 0 := by rw [gt_put_ne _ _ _ _ (ne _ _ g9)]; exact e1
    have e4 : gt (b1.put (some tyy) (.int .i32 l0)) tyy = .int .i32 l0 := gt_put_same _ _ _ (by rw [k1.size]; exact Nat.le_of_ble_eq_true g6)
    generalize b1.put (some tyy) (.int .i32 l0) = b2 at *
    have hexec : (execOp b2.eval ⟨some ta, .call ⟨.builtin .append, #[.tmp tx, .tmp tyy], #[t0, t32]⟩, y3, p3, f3, none⟩).run P w = .ok (.value (.slice (some ⟨w.heap.size, 0, none⟩) l0.toNat cap)) (w.drew.alloc (.cells ((List.replicate cap zc).flatten).toArray e)) := by
     simp only [execOp, resolve, List.map_toArray, List.map_cons, List.map_nil, eval_tmp, e3, e4, Sem.run_bind, Sem.run_pure, Result.andThen_ok, invoke, builtin, hrun]
    refine st_of (o := ⟨some ta, .call ⟨.builtin .append, #[.tmp tx, .tmp tyy], #[t0, t32]⟩, y3, p3, f3, none⟩) rfl hexec ?_
    have hal : Chg (fun _ => False) w (w.drew.alloc (.cells ((List.replicate cap zc).flatten).toArray e)) := (chg_drew w _).trans (chg_alloc w.drew _ _)
    have k3 := k2.putOff (t := ta) (.slice (some ⟨w.heap.size, 0, none⟩) l0.toNat cap)
    have e5 : gt (b2.put (some ta) (.slice (some ⟨w.heap.size, 0, none⟩) l0.toNat cap)) ta = .slice (some ⟨w.heap.size, 0, none⟩) l0.toNat cap := gt_put_same _ _ _ (by rw [k2.size]; exact Nat.le_of_ble_eq_true g7)
    refine st_assign ?_
    rw [eval_tmp, e5]
    have k4 := k3.putOff (t := tb) (.slice (some ⟨w.heap.size, 0, none⟩) l0.toNat cap)
    refine hq (.slice (some ⟨w.heap.size, 0, none⟩) l0.toNat cap) _ _ (fr_of hal) ?_
    refine H.next hal trivial trivial k4 (gt_put_same _ _ _ (by rw [k3.size]; exact Nat.le_of_ble_eq_true g8)) ?_
    refine ⟨l0, s1, _, zc, zs, get_more hl0, hrel, hst, (hzok.turn hal (fun k h => h.elim)).more, by rw [← H.ho.1]; simp, rfl, ⟨fun _ => ⟨w.heap.size, cap, e, rfl, H.lo.2.2.2, by simp, hcap, box_alloc w.drew _ _, rfl, ?_⟩, fun h => absurd hpos h⟩, hzone, hzpos⟩
    exact H.ds.up (fun r hr => ⟨⟨hr.1, Nat.lt_of_lt_of_le hr.2 hal.size⟩, hr.2⟩) (fun r hr => hal.block r hr.2 (fun h => h))
   ·have hval' : a.eval q = .bool false := by rw [hval]; simp [hpos]
    refine wp_cond_false hval' (wp_skip (hq v0 a w (fr_of (Chg.refl _ _)) ?_))
    refine H.next (Chg.refl _ _) trivial trivial (H.kn.weak (lessW_trans (lessW_trans (lessW_trans (lessW_drop _ _) (lessW_drop _ _)) (lessW_drop _ _)) (lessW_drop _ _))) hv0 ?_
    refine ⟨l0, s1, v0, zc, zs, get_more hl0, hrel, hst, hzok.more, by rw [← H.ho.1]; simp, rfl, ⟨fun h => absurd h hpos, fun _ => ?_⟩, hzone, hzpos⟩
    cases z with
    | none => exact hz0
    | some zi => exact get_more hz0
 ·cases hn
end
end Go.Proofs.YtlmnaffhadeolaaGreatDoor

namespace Go.Proofs.YtlmnaffhadeolaaGreatDoor
open Go Go.RowKit
theorem rdRow_snoc (body : List Ra) (dfl : List D) : ∀ (n : Nat) (s : List UInt8), rdRow body dfl (n + 1) s = (rdRow body dfl n s).bind fun x => (rdAs body dfl x.2).map fun y => (x.1 ++ [y.1], y.2)
 | 0, s => by
  simp only [rdRow, Option.bind_some]
  cases rdAs body dfl s <;> simp
 | n + 1, s => by
  rw [rdRow]
  cases h : rdAs body dfl s with
  | none => rw [rdRow, h]; rfl
  | some x =>
   simp only [Option.bind_some]
   rw [rdRow_snoc body dfl n x.2, rdRow, h]
   simp only [Option.bind_some]
   cases rdRow body dfl n x.2 with
   | none => rfl
   | some y =>
    simp only [Option.bind_some, Option.map_some]
    cases rdAs body dfl y.2 <;> simp
theorem rdRow_none (body : List Ra) (dfl : List D) (s : List UInt8) (i : Nat) : ∀ (n : Nat), i ≤ n → rdRow body dfl i s = none → rdRow body dfl n s = none
 | 0, h, e => by
  have : i = 0 := by omega
  subst this; exact e
 | n + 1, h, e => by
  by_cases hi : i ≤ n
  ·rw [rdRow_snoc, rdRow_none body dfl s i n hi e]; rfl
  ·have : i = n + 1 := by omega
   subst this; exact e
def ItR (body : List Ra) (dfl : List D) (i : Nat) (s : List UInt8) (dss : List (List D)) (st : Option (List UInt8)) : Prop := match rdRow body dfl i s with
 | some x => st = some x.2 ∧ dss = x.1
 | none => st = none
theorem ItR.step {body : List Ra} {dfl : List Value} {i : Nat} {s : List UInt8} {dss : List (List D)} {st st' : Option (List UInt8)} {ds : List D} (h : ItR body (litsD dfl) i s dss st) (k : OutR body (litsD dfl) st ds st') : ItR body (litsD dfl) (i + 1) s (dss ++ [ds]) st' := by
 unfold ItR at *
 rw [rdRow_snoc]
 have k2 := k.2
 cases hx : rdRow body (litsD dfl) i s with
 | none =>
  rw [hx] at h
  simp only [] at h
  subst h
  exact k2
 | some x =>
  rw [hx] at h
  obtain ⟨rfl, rfl⟩ := h
  simp only [] at k2
  simp only [Option.bind_some]
  cases hy : rdAs body (litsD dfl) x.2 with
  | none => rw [hy] at k2; exact k2
  | some y =>
   rw [hy] at k2
   obtain ⟨rfl, rfl⟩ := k2
   exact ⟨rfl, rfl⟩
theorem rep_elD {ok : Nat → Prop} {w : World} {stt : Bool} {ds : List D} {cs : List Value} (h : Reps ok w ds cs) : Rep ok w (elD stt ds) cs := by
 unfold elD
 split
 ·simpa only [Rep] using h
 ·split
  ·obtain ⟨c1, c2, rfl, h1, h2⟩ := h
   simp only [Reps] at h2
   subst h2
   simpa using h1
  ·simpa only [Rep] using h
section
variable {P : Program} {K : Kr} {N g rb sb : Nat} {ev : Value} {k : Nat} {rows : List (Nat × Nat × Nat)} {zs : List (Nat × List Value)} {S : RS} {Ad : List (Nat × Nat)} {R : List Value} {I : List Int} {it : Wi} {sst st0 st : Option (List UInt8)} {a : Act} {w : World}
theorem denW_wide {s : Wd} {v : Value} (Ad' : List (Nat × Nat)) (R' : List Value) (I' : List Int) (h : denW rb Ad R I s = some v) : denW rb (Ad ++ Ad') (R ++ R') (I ++ I') s = some v := by
 cases s with
 | val v => exact h
 | rdr => exact h
 | at_ k o =>
  simp only [denW, Option.map_eq_some_iff] at h ⊢
  obtain ⟨p, hp, e⟩ := h
  exact ⟨p, get_more hp, e⟩
 | res n => exact get_more h
 | idx m =>
  simp only [denW, Option.map_eq_some_iff] at h ⊢
  obtain ⟨p, hp, e⟩ := h
  exact ⟨p, get_more hp, e⟩
theorem KnW.wide {A : WA} (h : KnW N rb a A Ad R I) (Ad' : List (Nat × Nat)) (R' : List Value) (I' : List Int) : KnW N rb a A (Ad ++ Ad') (R ++ R') (I ++ I') := ⟨h.size, h.defers, fun t s e => denW_wide Ad' R' I' (h.at_ t s e)⟩
theorem KnW.back {a' : Act} {A : WA} {Ad' : List (Nat × Nat)} {R' : List Value} {I' : List Int} (h : KnW N rb a A Ad R I) (h' : KnW N rb a' A (Ad ++ Ad') (R ++ R') (I ++ I')) : KnW N rb a' A Ad R I := by
 refine ⟨h'.size, h'.defers, fun t s e => ?_⟩
 have h1 := h.at_ t s e
 have h2 := h'.at_ t s e
 rw [denW_wide Ad' R' I' h1] at h2
 rw [h1, h2]
theorem head_ok {V : WA} {x1 y1 c1 i1 l1 N : Nat} {r1 : Nat} {t1 u1 ta tb tc : TypeId} {p1 p2 p3 : String} {f1 f2 f3 : Array Edge} {i l : Int} {Q : Exit → Act → World → Prop} (k : KnW N rb a V Ad R I) (hx : lkW V x1 = none) (hy : lkW V y1 = none) (hc : lkW V c1 = none) (bx : Nat.blt x1 N = true) (bY : Nat.blt y1 N = true) (bc : Nat.blt c1 N = true) (hi : gt a i1 = .int .i32 i) (hl : gt a l1 = .int .i32 l)
  (n1 : i1 ≠ x1) (n2 : i1 ≠ y1) (n3 : i1 ≠ c1) (n4 : x1 ≠ y1) (n5 : x1 ≠ l1)
  (hq : ∀ b, KnW N rb b V Ad R I → gt b i1 = .int .i32 i → gt b c1 = .bool (decide (i < l)) → Q .normal b w) :
  (Code.region r1 #[⟨some x1, .move (.tmp i1), ta, p1, f1, none⟩, ⟨some y1, .move (.tmp l1), tb, p2, f2, none⟩, ⟨some c1, .binOp .lss t1 (.tmp x1) (.tmp y1) u1, tc, p3, f3, none⟩] false).wp P Q a w := by
 refine wp_region_lit (st_move ?_)
 rw [eval_tmp, hi]
 have k1 := k.putFree (t := x1) (.int .i32 i) hx
 have e1 : gt (a.put (some x1) (.int .i32 i)) x1 = .int .i32 i := gt_put_same _ _ _ (by rw [k.size]; exact Nat.le_of_ble_eq_true bx)
 have e2 : gt (a.put (some x1) (.int .i32 i)) i1 = .int .i32 i := by rw [gt_put_ne _ _ _ _ n1]; exact hi
 have e3 : gt (a.put (some x1) (.int .i32 i)) l1 = .int .i32 l := by rw [gt_put_ne _ _ _ _ n5.symm]; exact hl
 generalize a.put (some x1) (.int .i32 i) = b1 at *
 refine st_move ?_
 rw [eval_tmp, e3]
 have k2 := k1.putFree (t := y1) (.int .i32 l) hy
 have d1 : gt (b1.put (some y1) (.int .i32 l)) x1 = .int .i32 i := by rw [gt_put_ne _ _ _ _ n4]; exact e1
 have d2 : gt (b1.put (some y1) (.int .i32 l)) y1 = .int .i32 l := gt_put_same _ _ _ (by rw [k1.size]; exact Nat.le_of_ble_eq_true bY)
 have d3 : gt (b1.put (some y1) (.int .i32 l)) i1 = .int .i32 i := by rw [gt_put_ne _ _ _ _ n2]; exact e2
 generalize b1.put (some y1) (.int .i32 l) = b2 at *
 refine st_lss d1 d2 ?_
 have k3 := k2.putFree (t := c1) (.bool (decide (i < l))) hc
 exact hq _ k3 (by rw [gt_put_ne _ _ _ _ n3]; exact d3) (gt_put_same _ _ _ (by rw [k2.size]; exact Nat.le_of_ble_eq_true bc))
theorem tail_ok {V : WA} {u1 w1 i1 N : Nat} {r1 : Nat} {t1 u2 ta tb tc : TypeId} {p1 p2 p3 : String} {f1 f2 f3 : Array Edge} {i : Int} {Q : Exit → Act → World → Prop} (k : KnW N rb a V Ad R I) (hu : lkW V u1 = none) (hw : lkW V w1 = none) (hv : lkW V i1 = none) (bu : Nat.blt u1 N = true) (bw : Nat.blt w1 N = true) (bi : Nat.blt i1 N = true) (hi : gt a i1 = .int .i32 i)
  (hq : ∀ b, KnW N rb b V Ad R I → gt b i1 = .int .i32 (IntKind.i32.wrap (i + 1)) → Q .normal b w) :
  (Code.region r1 #[⟨some u1, .move (.tmp i1), ta, p1, f1, none⟩, ⟨some w1, .binOp .add t1 (.tmp u1) (.const (.int .i32 1)) u2, tb, p2, f2, none⟩, ⟨some i1, .assign (.tmp w1), tc, p3, f3, none⟩] false).wp P Q a w := by
 refine wp_region_lit (st_move ?_)
 rw [eval_tmp, hi]
 have k1 := k.putFree (t := u1) (.int .i32 i) hu
 have e1 : gt (a.put (some u1) (.int .i32 i)) u1 = .int .i32 i := gt_put_same _ _ _ (by rw [k.size]; exact Nat.le_of_ble_eq_true bu)
 generalize a.put (some u1) (.int .i32 i) = b1 at *
 refine st_add e1 (by rfl) ?_
 have k2 := k1.putFree (t := w1) (.int .i32 (IntKind.i32.wrap (i + 1))) hw
 have d1 : gt (b1.put (some w1) (.int .i32 (IntKind.i32.wrap (i + 1)))) w1 = .int .i32 (IntKind.i32.wrap (i + 1)) := gt_put_same _ _ _ (by rw [k1.size]; exact Nat.le_of_ble_eq_true bw)
 generalize b1.put (some w1) (.int .i32 (IntKind.i32.wrap (i + 1))) = b2 at *
 refine st_assign ?_
 rw [eval_tmp, d1]
 exact hq _ (k2.putFree _ hv) (gt_put_same _ _ _ (by rw [k2.size]; exact Nat.le_of_ble_eq_true bi))
end
end Go.Proofs.YtlmnaffhadeolaaGreatDoor

namespace Go.Proofs.YtlmnaffhadeolaaGreatDoor
open Go Go.RowKit
section
variable {P : Program} {K : Kr} {N g rb sb : Nat} {ev : Value} {k : Nat} {rows : List (Nat × Nat × Nat)} {zs : List (Nat × List Value)} {S : RS} {Ad : List (Nat × Nat)} {R : List Value} {I : List Int} {it : Wi} {sst st0 st : Option (List UInt8)} {a : Act} {w : World}
theorem loopR_ok {rs id q1 q2 x1 y1 c1 u1 w1 i1 l1 l r : Nat} {t1 u2 t3 u3 ta tb tc td te tf : TypeId} {p1 p2 p3 p4 p5 p6 : String} {f1 f2 f3 f4 f5 f6 : Array Edge} {c : Bool} {z : Option Nat} {zc : List Value} {zs' : List (Nat × List Value)} {V : WA} {S2 : RS} {body : Code} {Q : Exit → Act → World → Prop}
  (H : RAt N g rb sb ev k rows zs S Ad R I it sst st0 st a w) (hpd : S.pd = .made c l z r) (hzs : zs = (r, zc) :: zs') (hlast : lastRow S.H = true)
  (kV : lessW S.A V) (vi : lkW V i1 = none) (vx : lkW V x1 = none) (vy : lkW V y1 = none) (vc : lkW V c1 = none) (vu : lkW V u1 = none) (vw : lkW V w1 = none) (hl1 : lkW V l1 = some (.res l)) (hi0 : lkW S.A i1 = some (.val (.int .i32 0)))
  (bx : Nat.blt x1 N = true) (bY : Nat.blt y1 N = true) (bc : Nat.blt c1 N = true) (bu : Nat.blt u1 N = true) (bw : Nat.blt w1 N = true) (bi : Nat.blt i1 N = true)
  (n1 : i1 ≠ x1) (n2 : i1 ≠ y1) (n3 : i1 ≠ c1) (n4 : x1 ≠ y1) (n5 : x1 ≠ l1)
  (hwi : lessW S2.A V) (hidx : lkW S2.A i1 = some (.idx (k + 1))) (hno : S2.pd = .no) (hlenS : S2.cells.length = zc.length)
  (hbody : ∀ (Ad' : List (Nat × Nat)) (R' : List Value) (I' : List Int) (it' : Wi) (st' : Option (List UInt8)) (a' : Act) (w' : World) (Q' : Exit → Act → World → Prop), RAt N g rb sb ev (k + 1) ((k + 1, r, zc.length) :: rows) zs' ⟨(i1, .idx (k + 1)) :: V, S.H, .no, zc.map some, shDs (litsD zc), false, zc, []⟩ Ad' R' I' it' st' st' st' a' w' →
   (∀ R'' it'' st0'' st'' a'' w'', Fr rb it' it'' R' R'' w' w'' → RAt N g rb sb ev (k + 1) ((k + 1, r, zc.length) :: rows) zs' S2 Ad' R'' I' it'' st' st0'' st'' a'' w'' → Q' .normal a'' w'') →
   (∀ a'' w'', Bad N g rb ev rs it' w' a'' w'' → (∀ s, st' = some s → Fails S2 s) → Q' .ret a'' w'') → body.wp P Q' a' w')
  (hq : ∀ st' a' w', Fr rb it it R R w w' → RAt N g rb sb ev k rows zs' { S with A := V, pd := .done c z.isSome r S2.st S2.dfl S2.acts } Ad R I it sst st0 st' a' w' → Q .normal a' w')
  (hbad : ∀ a' w', Bad N g rb ev rs it w a' w' → (∀ s, sst = some s → Fails { S with A := V, pd := .done c z.isSome r S2.st S2.dfl S2.acts } s) → Q .ret a' w') :
  (Code.block id (.loop (.seq (.seq (.region q1 #[⟨some x1, .move (.tmp i1), ta, p1, f1, none⟩, ⟨some y1, .move (.tmp l1), tb, p2, f2, none⟩, ⟨some c1, .binOp .lss t1 (.tmp x1) (.tmp y1) u2, tc, p3, f3, none⟩] false) (.cond (.tmp c1) .skip (.exit id))) (.seq body (.region q2 #[⟨some u1, .move (.tmp i1), td, p4, f4, none⟩, ⟨some w1, .binOp .add t3 (.tmp u1) (.const (.int .i32 1)) u3, te, p5, f5, none⟩, ⟨some i1, .assign (.tmp w1), tf, p6, f6, none⟩] false))))).wp P Q a w := by
 have hp := H.pd
 rw [hpd] at hp
 obtain ⟨l0, s1, v, zc', rest, hl0, hrel, hst, hzok, hr, hzs', hnew, hone, hpos⟩ := hp
 rw [hzs] at hzs'
 simp only [List.cons.injEq, Prod.mk.injEq, true_and] at hzs'
 obtain ⟨rfl, rfl⟩ := hzs'
 subst hst
 obtain ⟨s0, hs0, hlen0⟩ : ∃ s0, st0 = some s0 ∧ lenP c s0 = some (l0, s1) := by
  cases st0 with
  | none => simp [LenRel] at hrel
  | some s0 =>
   simp only [LenRel] at hrel
   split at hrel
   ·rename_i x hx
    obtain ⟨e1, e2⟩ := hrel
    simp only [Option.some.injEq] at e1
    exact ⟨s0, rfl, by rw [hx, e1, e2]⟩
   ·cases hrel
 have hlt := lenP_lt hlen0
 simp only [] at hlt
 have kn := H.kn.weak kV
 have hgl : ∀ b, KnW N rb b V Ad R I → gt b l1 = .int .i32 l0 := by
  intro b kb
  have := kb.at_ l1 _ hl1
  simp only [denW] at this
  rw [hl0] at this
  simpa using this.symm
 have hgi : gt a i1 = .int .i32 0 := by
  have := H.kn.at_ i1 _ hi0
  simp only [denW, Option.some.injEq] at this
  exact this.symm
 have hrow : rowP c z.isSome S2.st S2.dfl S2.acts s0 = (rdRow S2.acts (litsD S2.dfl) l0.toNat s1).map fun y =>
  (if z.isSome then (if l0 < 0 then .sl true [] else .sl false (y.1.map (elD S2.st))) else .sl (decide (l0 ≤ 0)) (y.1.map (elD S2.st)), y.2) := by
  simp only [rowP, hlen0, Option.bind_some]
 have hlo := H.lo
 have hne := H.ne
 have hglb := H.gl
 have fin : ∀ (d : D) (stf : Option (List UInt8)) (af : Act) (wf : World), KnW N rb af V Ad R I → Chg (fun j => j = rb ∨ it.lo ≤ j) w wf → v.cells = #[v] → v.oneCell' = true → Rep (Dk sb it.lo wf) wf d [v] → shD d = [.sl] → (match rowP c z.isSome S2.st S2.dfl S2.acts s0 with
   | some x => stf = some x.2 ∧ d = x.1
   | none => stf = none) → Rdr wf rb sb stf → Reps (Dk sb it.lo wf) wf it.ds it.cs → Q .normal af wf := by
  intro d stf af wf kf hc hv1 hv2 hd hsd hrr hrd hds
  refine hq stf af wf ⟨rfl, rfl, rfl, rfl, rfl, hc.wide (fun j hj => by rcases hj with h | h; exact .inl h; exact .inr (.inr h)), [], by simp⟩ ⟨kf, H.ho, ?_, H.ad, H.lens, H.row, ?_, hds, H.cl, H.sh, H.cells, hrd, ?_, H.fresh, H.rel, ⟨hlo.1, hlo.2.1, hlo.2.2.1, Nat.le_trans hlo.2.2.2 hc.size⟩, H.ne, ?_⟩
  ·intro h u hh hu
   unfold lastRow at hlast
   simp only [] at hh
   split at hlast
   ·rename_i n hx
    rw [hx] at hh
    cases hh
    trivial
   ·cases hlast
  ·exact H.box.chg hc (by rintro (h | h); exact hne.2.1 h; omega)
  ·refine ⟨v, d, hr, hv1, hv2, hd, hsd, ?_⟩
   rw [hs0]
   exact hrr
  ·refine ⟨?_, H.gl.2⟩
   have h1 := H.gl.1
   have hg : wf.heap[g]? = w.heap[g]? := hc.block g (by omega) (by rintro (h | h); exact hglb.2.1 h; omega)
   simp only [World.cell?] at h1 ⊢
   rw [hg]; exact h1
 by_cases hpl : 0 < l0
 ·obtain ⟨hb, cap, e, rfl, hbl, hbw, hcap, hbox, _, hreps⟩ := hnew.1 hpl
  obtain ⟨m, hm⟩ : ∃ m : Nat, l0 = (m : Int) := ⟨l0.toNat, by omega⟩
  subst hm
  simp only [Int.toNat_natCast] at hcap hrow
  refine wp_block (wp_loop_ghost (fun n a' w' => ∃ i sti dss cells, i ≤ m ∧ n = m - i ∧ KnW N rb a' V Ad R I ∧ gt a' i1 = .int .i32 (i : Int) ∧ Chg (fun j => j = rb ∨ hb ≤ j) w w' ∧ Box w' hb (cells ++ (List.replicate (cap - i) zc).flatten) e ∧ cells.length = i * zc.length ∧ dss.length = i ∧ Reps (Dk sb (hb + 1) w') w' (dss.map (elD S2.st)) cells ∧ Rdr w' rb sb sti ∧ ItR S2.acts (litsD S2.dfl) i s1 dss sti)
   m ⟨0, some s1, [], [], Nat.zero_le _, rfl, kn, hgi, Chg.refl _ _, by simpa using hbox, by simp, rfl, by simp [Reps], H.rdr, by simp [ItR, rdRow]⟩ ?_)
  rintro n a' w' ⟨i, sti, dss, cells, hi, rfl, k', hgi', hc', hbox', hcl, hdl, hrp, hrd, hit⟩
  have hsz := hc'.size
  refine wp_seq (wp_seq (head_ok k' vx vy vc bx bY bc hgi' (hgl a' k') n1 n2 n3 n4 n5 (fun b kb hbi hbc => ?_)))
  by_cases hlt' : i < m
  ·have hd1 : decide ((i : Int) < (m : Int)) = true := by simpa using hlt'
   rw [hd1] at hbc
   refine wp_cond_true hbc (wp_skip (wp_seq ?_))
   have hxs : cap - i = (cap - i - 1) + 1 := by omega
   rw [hxs, List.replicate_succ, List.flatten_cons, ← List.append_assoc] at hbox'
   have hbw' := hbox'.lt
   have hgne : g ≠ hb := by omega
   have HB : RAt N g rb sb ev (k + 1) ((k + 1, r, zc.length) :: rows) zs' ⟨(i1, .idx (k + 1)) :: V, S.H, .no, zc.map some, shDs (litsD zc), false, zc, []⟩ (Ad ++ [(hb, cells.length)]) R (I ++ [(i : Int)]) ⟨hb, w'.heap.size, cells, (List.replicate (cap - i - 1) zc).flatten, zc, e, litsD zc⟩ sti sti sti b w' := by
    refine ⟨?_, H.ho, ?_, ?_, ?_, ?_, hbox', reps_lits _, ?_, ⟨rfl, ?_⟩, ?_, hrd, rfl, fun _ => ⟨rfl, rfl⟩, ⟨rfl, ?_⟩, ⟨hbw', by simp only []; omega, by simp only []; omega, Nat.le_refl _⟩, ⟨hne.1, by simp only []; omega, by simp only []; omega⟩, ⟨?_, hglb.2.1, by simp only []; omega, hgne⟩⟩
    ·have := (kb.wide [(hb, cells.length)] [] [(i : Int)]).know (t := i1) (s := .idx (k + 1)) (by
      simp only [denW]
      rw [List.getElem?_append_right (by rw [H.lens.2]; exact Nat.le_refl _), H.lens.2, Nat.sub_self, hbi]
      rfl)
     rw [List.append_nil] at this
     exact this
    ·intro h u hh hu
     unfold lastRow at hlast
     simp only [] at hh
     split at hlast
     ·rename_i n hx
      rw [hx] at hh
      cases hh
      trivial
     ·cases hlast
    ·rw [List.getElem?_append_right (by rw [H.lens.1]; exact Nat.le_refl _), H.lens.1, Nat.sub_self]; rfl
    ·simp [H.lens.1, H.lens.2]
    ·intro q rest' hq1 hq2
     simp only [List.cons.injEq] at hq1
     obtain ⟨rfl, rfl⟩ := hq1
     refine ⟨_, cap, i, hr, ?_, hcl, by simpa using hlt'⟩
     rw [List.getElem?_append_right (by rw [H.lens.2]; exact Nat.le_refl _), H.lens.2, Nat.sub_self]; rfl
    ·simp
    ·intro d hd
     simp only [litsD, List.mem_map] at hd
     obtain ⟨u, _, rfl⟩ := hd
     rfl
    ·intro j u hj
     simp only [List.getElem?_map, Option.map_eq_some_iff] at hj
     obtain ⟨u', hu, he⟩ := hj
     cases he
     exact hu
    ·cases sti with
     | none => rfl
     | some s => simp [rdAs]
    ·have h1 := H.gl.1
     have hg : w'.heap[g]? = w.heap[g]? := hc'.block g (by omega) (by rintro (h | h); exact hglb.2.1 h; omega)
     simp only [World.cell?] at h1 ⊢
     rw [hg]; exact h1
   refine hbody _ _ _ _ _ _ _ _ HB ?_ ?_
   ·intro R'' it'' st0'' st'' a2 w2 f2 H2
    obtain ⟨X, hX⟩ := f2.more
    subst hX
    have k2 : KnW N rb a2 V Ad R I := KnW.back k' (H2.kn.weak hwi)
    have hgi2 : gt a2 i1 = .int .i32 (i : Int) := by
     have := H2.kn.at_ i1 _ hidx
     simp only [denW] at this
     rw [List.getElem?_append_right (by rw [H.lens.2]; exact Nat.le_refl _), H.lens.2, Nat.sub_self] at this
     simpa using this.symm
    have hwrap : IntKind.i32.wrap ((i : Int) + 1) = ((i + 1 : Nat) : Int) := by rw [IntKind.wrap_i32]; omega
    have hpd2 := H2.pd
    rw [hno] at hpd2
    have hst2 : st'' = st0'' := hpd2
    subst hst2
    refine tail_ok k2 vu vw vi bu bw bi hgi2 (fun b2 kb2 hb2 => ?_)
    rw [hwrap] at hb2
    have hcs2 : it''.cs.length = zc.length := by rw [← H2.cl]; exact hlenS
    have hf2 := f2.chg
    simp only [] at hf2
    have hbx2 := H2.box
    rw [f2.b, f2.pre, f2.post, f2.e] at hbx2
    simp only [] at hbx2
    have hlo2 : it''.lo = w'.heap.size := f2.lo
    refine ⟨m - (i + 1), by omega, i + 1, st'', dss ++ [it''.ds], cells ++ it''.cs, hlt', rfl, kb2, hb2, ?_, ?_, ?_, by simp [hdl], ?_, H2.rdr, hit.step H2.rel⟩
    ·exact hc'.trans (hf2.wide (fun j hj => by rcases hj with h | h | h; exact .inl h; exact .inr (by omega); exact .inr (by omega)))
    ·rw [show cap - (i + 1) = cap - i - 1 by omega]; exact hbx2
    ·rw [List.length_append, hcl, hcs2, Nat.add_mul]; omega
    ·rw [List.map_append]
     refine (Reps.app _ _ _).2 ⟨cells, it''.cs, rfl, ?_, ?_⟩
     ·exact hrp.up (fun r' hr' => ⟨hr'.1, Nat.lt_of_lt_of_le hr'.2 hf2.size⟩) (fun r' hr' => hf2.block r' hr'.2 (by
       have := hr'.1
       have := hr'.2
       rintro (h | h | h) <;> omega))
     ·refine ⟨it''.cs, [], by simp, rep_elD ?_, rfl⟩
      have hd2 := H2.ds
      rw [hlo2] at hd2
      exact hd2.up (fun r' hr' => ⟨by rcases hr'.1 with h | h; exact .inl h; exact .inr (by omega), hr'.2⟩) (fun _ _ => rfl)
   ·intro a2 w2 hB hF
    obtain ⟨b1, b2, b3, b4, b5⟩ := hB
    refine hbad a2 w2 ⟨b1, b2, ?_, b4, b5⟩ ?_
    ·exact (hc'.trans (b3.wide (fun j hj => by simp only [] at hj; rcases hj with h | h | h; exact .inl h; exact .inr (by omega); exact .inr (by omega)))).wide (fun j hj => by rcases hj with h | h; exact .inl h; exact .inr (.inr (by omega)))
    ·intro s hs x hx
     simp only [] at hx ⊢
     have hrl := H.rel.2
     rw [hs] at hrl
     simp only [hx] at hrl
     have : s0 = x.2 := by
      have := hs0.symm.trans hrl.1
      simpa using this
     subst this
     rw [hrow]
     have hnn : rdRow S2.acts (litsD S2.dfl) m s1 = none := by
      unfold ItR at hit
      cases hy : rdRow S2.acts (litsD S2.dfl) i s1 with
      | none => exact rdRow_none _ _ _ i m hi hy
      | some y =>
       rw [hy] at hit
       refine rdRow_none _ _ _ (i + 1) m hlt' ?_
       rw [rdRow_snoc, hy]
       simp only [Option.bind_some]
       have := hF y.2 hit.1
       unfold Fails at this
       rw [hno] at this
       cases hz : rdAs S2.acts (litsD S2.dfl) y.2 with
       | none => rfl
       | some u => exact (this u hz).elim
     rw [hnn]; rfl
  ·have hd1 : decide ((i : Int) < (m : Int)) = false := by simpa using hlt'
   rw [hd1] at hbc
   have : i = m := by omega
   subst this
   refine wp_cond_false hbc (wp_exit ?_)
   show (if id = id then _ else _)
   rw [if_pos rfl]
   have hcells : CellsAt w' hb 0 cells := hbox'.cells.left
   have hok : ∀ r', Dk sb (hb + 1) w' r' → Dk sb it.lo w' r' := fun r' hr' => ⟨by rcases hr'.1 with h | h; exact .inl h; exact .inr (by omega), hr'.2⟩
   have hrp' := hrp.up hok (fun _ _ => rfl)
   have hdk : Dk sb it.lo w' hb := ⟨.inr hbl, by omega⟩
   have hds : Reps (Dk sb it.lo w') w' it.ds it.cs := hreps.up (fun r' hr' => ⟨hr'.1.1, by have := hr'.1.2; omega⟩) (fun r' hr' => hc'.block r' hr'.1.2 (by
    have h1 := hr'.1.1
    have h2 := hr'.2
    rintro (h | h) <;> omega))
   refine fin (.sl false (dss.map (elD S2.st))) sti b w' kb (hc'.wide (fun j hj => by rcases hj with h | h; exact .inl h; exact .inr (by omega))) rfl rfl ?_ ?_ ?_ hrd hds
   ·exact ⟨some ⟨hb, 0, none⟩, cap, by simp [hdl], by simpa [hdl] using hcap, (fun h => by cases h), fun _ => ⟨hb, 0, cells, rfl, hdk, hcells, hrp'⟩⟩
   ·rfl
   ·rw [hrow]
    unfold ItR at hit
    cases hy : rdRow S2.acts (litsD S2.dfl) i s1 with
    | none => rw [hy] at hit; exact hit
    | some y =>
     rw [hy] at hit
     obtain ⟨h1, rfl⟩ := hit
     simp only [Option.map_some]
     refine ⟨h1, ?_⟩
     rw [if_neg (by omega : ¬ ((i : Int) < 0)), show decide ((i : Int) ≤ 0) = false from decide_eq_false (by omega)]
     cases z <;> rfl
 ·have hm0 : l0.toNat = 0 := by omega
  rw [hm0] at hrow
  simp only [rdRow, Option.map_some, List.map_nil] at hrow
  have hdone : ∀ b, KnW N rb b V Ad R I → Q .normal b w := by
   intro b kb
   have hv := hnew.2 hpl
   cases z with
   | none =>
    simp only [] at hv
    subst hv
    refine fin (.sl true []) (some s1) b w kb (Chg.refl _ _) rfl rfl ⟨none, 0, rfl, Nat.le_refl _, fun _ => ⟨rfl, rfl, rfl⟩, (fun h => by cases h)⟩ rfl ?_ H.rdr H.ds
    rw [hrow, show decide (l0 ≤ 0) = true from decide_eq_true (by omega)]; exact ⟨rfl, rfl⟩
   | some zi =>
    simp only [] at hv
    by_cases h0 : l0 = 0
    ·obtain ⟨bb, hz, hdk, hcz⟩ := hzok.2 h0
     rw [hv] at hz
     simp only [Option.some.injEq] at hz
     subst hz
     refine fin (.sl false []) (some s1) b w kb (Chg.refl _ _) rfl rfl ⟨some ⟨bb, 0, none⟩, 0, rfl, Nat.le_refl _, (fun h => by cases h), fun _ => ⟨bb, 0, [], rfl, hdk, hcz, rfl⟩⟩ rfl ?_ H.rdr H.ds
     rw [hrow]; simp [h0]
    ·have hz := hzok.1 h0
     rw [hv] at hz
     simp only [Option.some.injEq] at hz
     subst hz
     refine fin (.sl true []) (some s1) b w kb (Chg.refl _ _) rfl rfl ⟨none, 0, rfl, Nat.le_refl _, fun _ => ⟨rfl, rfl, rfl⟩, (fun h => by cases h)⟩ rfl ?_ H.rdr H.ds
     rw [hrow]
     have : l0 < 0 := by omega
     simp [this]
  refine wp_block (wp_loop_ghost (fun n a' w' => n = 0 ∧ a' = a ∧ w' = w) 0 ⟨rfl, rfl, rfl⟩ ?_)
  rintro n a' w' ⟨rfl, rfl, rfl⟩
  refine wp_seq (wp_seq (head_ok kn vx vy vc bx bY bc hgi (hgl _ kn) n1 n2 n3 n4 n5 (fun b kb hbi hbc => ?_)))
  rw [decide_eq_false hpl] at hbc
  refine wp_cond_false hbc (wp_exit ?_)
  show (if id = id then _ else _)
  rw [if_pos rfl]
  exact hdone b kb
end
end Go.Proofs.YtlmnaffhadeolaaGreatDoor

namespace Go.Proofs.YtlmnaffhadeolaaGreatDoor
open Go Go.RowKit
section
variable {P : Program} {K : Kr} {N g rb sb : Nat} {ev : Value} {k : Nat} {rows : List (Nat × Nat × Nat)} {zs : List (Nat × List Value)} {S : RS} {Ad : List (Nat × Nat)} {R : List Value} {I : List Int} {it : Wi} {sst st0 st : Option (List UInt8)} {a : Act} {w : World}
theorem failsAt (H : RAt N g rb sb ev k rows zs S Ad R I it sst st0 none a w) : ∀ s, sst = some s → Fails S s := by
 rintro s rfl x hx
 have hr := H.rel.2
 simp only [hx] at hr
 obtain ⟨rfl, _⟩ := hr
 have hp := H.pd
 split
 ·rename_i e; rw [e] at hp; cases hp
 ·rename_i e; rw [e] at hp
  obtain ⟨_, _, _, _, _, _, _, _, h⟩ := hp
  simp only [] at h
  split at h
  ·cases h.1
  ·assumption
 ·rename_i e; rw [e] at hp
  obtain ⟨_, _, h, _⟩ := hp
  simp only [LenRel] at h
  split at h
  ·cases h.1
  ·assumption
 ·rename_i e; rw [e] at hp
  obtain ⟨_, _, _, _, h, _⟩ := hp
  cases h
 ·rename_i e; rw [e] at hp
  obtain ⟨_, _, _, _, _, _, _, h, _⟩ := hp
  cases h
 ·rename_i e; rw [e] at hp
  obtain ⟨_, _, _, _, _, _, _, h⟩ := hp
  simp only [] at h
  split at h
  ·cases h.1
  ·assumption
 ·rename_i e; rw [e] at hp
  obtain ⟨_, _, _, _, _, h⟩ := hp
  simp only [TagRel] at h
  split at h
  ·cases h.1
  ·assumption
 ·rename_i e; rw [e] at hp
  obtain ⟨_, _, _, _, _, _, _, hr, _⟩ := hp
  have h := hr.2.2
  simp only [] at h
  split at h
  ·cases h.1
  ·assumption
 ·rename_i e; rw [e] at hp
  cases hp.1
 ·rename_i e; rw [e] at hp
  obtain ⟨_, _, _, _, _, _, _, _, _, htx, hrel, _⟩ := hp
  obtain ⟨_, _, h⟩ := rd_ptr htx hrel
  have h := h.2.2
  simp only [] at h
  split at h
  ·cases h.1
  ·assumption
theorem fails_ok {S : RS} {c : Bool} {l : Nat} {z : Option Nat} {s : List UInt8} (h : Fails S s) (hp : S.pd = .len c l z) : Fails { S with pd := .ok c l z } s := by
 intro x hx
 have := h x hx
 rw [hp] at this
 exact this
theorem fails_lz {S : RS} {c : Bool} {l : Nat} {z : Option Nat} {s : List UInt8} (h : Fails S s) (hp : S.pd = .len c l z) (A : WA) (H : List Hi) (z' : Option Nat) : Fails { S with A := A, H := H, pd := .len c l z' } s := by
 intro x hx
 have := h x hx
 rw [hp] at this
 exact this
theorem fails_lp {S : RS} {c : Bool} {l r : Nat} {z z' : Option Nat} {s : List UInt8} (h : Fails S s) (hp : S.pd = .ok c l z) (A : WA) (H : List Hi) : Fails { S with A := A, H := H, pd := .made c l z' r } s := by
 intro x hx
 have := h x hx
 rw [hp] at this
 exact this
theorem fails_done {S : RS} {c : Bool} {l r : Nat} {z : Option Nat} {s : List UInt8} (h : Fails S s) (hp : S.pd = .made c l z r) (A : WA) (nb stt : Bool) (dfl : List Value) (body : List Ra) : Fails { S with A := A, pd := .done c nb r stt dfl body } s := by
 intro x hx
 have := h x hx
 rw [hp] at this
 simp only [] at this ⊢
 simp only [rowP, this, Option.bind_none]
theorem condR_fails {rs h : Nat} {a b : Code} {x : RS × List (Nat × List Value)} (e : condR K P N rs zs S h a b = some x) : ∀ s, Fails S s → Fails x.1 s := by
 intro s hf
 unfold condR at e
 split at e
 ·rename_i c l z hh hpd
  cases hb : Nat.beq (h + 1) S.H.length && badR K P N rs S a with
  | false => rw [hb] at e; cases e
  | true =>
   rw [hb] at e
   cases e
   exact fails_ok hf hpd
 ·rename_i hh hpd
  cases hb : Nat.beq _ _ with
  | false => rw [hb] at e; cases e
  | true =>
   rw [hb] at e
   simp only [cond_true] at e
   split at e
   ·cases e
    exact fails_lz hf hpd _ _ _
   ·cases e
 ·rename_i hh hpd
  cases hb : Nat.beq _ _ with
  | false => rw [hb] at e; cases e
  | true =>
   rw [hb] at e
   simp only [cond_true] at e
   split at e
   ·split at e
    ·cases hz : optEq _ _ with
     | false => rw [hz] at e; cases e
     | true =>
      rw [hz] at e
      cases e
      exact fails_lp hf hpd _ _
    ·cases e
   ·cases e
 ·cases e
theorem runR_fails {rs : Nat} : ∀ (n k : Nat) (rows : List (Nat × Nat × Nat)) (zs : List (Nat × List Value)) (S : RS) (c : Code) (S' : RS) (zs' : List (Nat × List Value)) (e : Bool), runR K P N rs n k rows zs S c = some (S', zs', e) → ∀ s, Fails S s → Fails S' s := by
 intro n
 induction n with
 | zero => intro k rows zs S c S' zs' e h; simp [runR] at h
 | succ n ih =>
  intro k rows zs S c S' zs' e h s hf
  unfold runR at h
  split at h
  ·cases h; exact hf
  ·split at h
   ·split at h
    ·cases hb : Nat.beq _ S.H.length && Nat.beq k 0 with
     | false => rw [hb] at h; cases h
     | true => rw [hb] at h; cases h; exact hf
    ·cases h
   ·cases h
  ·split at h
   ·rename_i S1 hx
    cases h
    exact opsR_fails _ _ hx hf
   ·cases h
  ·split at h
   ·rename_i S1 zs1 h1
    exact ih _ _ _ _ _ _ _ _ h s (ih _ _ _ _ _ _ _ _ h1 s hf)
   ·rename_i S1 zs1 h1
    cases h
    exact ih _ _ _ _ _ _ _ _ h1 s hf
   ·cases h
  ·split at h
   ·exact ih _ _ _ _ _ _ _ _ h s hf
   ·exact ih _ _ _ _ _ _ _ _ h s hf
   ·split at h
    ·rename_i x hx
     cases h
     exact condR_fails hx s hf
    ·cases h
   ·cases h
  ·split at h
   ·split at h
    ·rename_i hpd
     cases hb : Nat.beq _ _ && isRes _ _ _ && i0 _ _ && lastRow S.H with
     | false => rw [hb] at h; cases h
     | true =>
      rw [hb] at h
      simp only [cond_true] at h
      split at h
      ·cases hc : bodyOk _ _ _ _ _ with
       | false => rw [hc] at h; cases h
       | true =>
        rw [hc] at h
        cases h
        exact fails_done hf hpd _ _ _ _ _
      ·cases h
    ·cases h
   ·split at h
    ·rename_i S1 zs1 h1
     cases h
     exact ih _ _ _ _ _ _ _ _ h1 s hf
    ·cases h
  ·cases h
end
end Go.Proofs.YtlmnaffhadeolaaGreatDoor

namespace Go.Proofs.YtlmnaffhadeolaaGreatDoor
open Go Go.RowKit
theorem nbeq_ne {p q : Nat} (h : (!Nat.beq p q) = true) : p ≠ q := by
 rintro rfl
 rw [Nat.beq_refl] at h; cases h
theorem loopPat_out {N id : Nat} {b : Code} {q : Lp} (h : loopPat N id b = some q) : ∃ (r1 r2 : Nat) (t1 u2 t3 u3 ta tb tc td te tf : TypeId) (p1 p2 p3 p4 p5 p6 : String) (f1 f2 f3 f4 f5 f6 : Array Edge),
  b = .loop (.seq (.seq (.region r1 #[⟨some q.x, .move (.tmp q.i), ta, p1, f1, none⟩, ⟨some q.y, .move (.tmp q.l), tb, p2, f2, none⟩, ⟨some q.c, .binOp .lss t1 (.tmp q.x) (.tmp q.y) u2, tc, p3, f3, none⟩] false) (.cond (.tmp q.c) .skip (.exit id))) (.seq q.body (.region r2 #[⟨some q.u, .move (.tmp q.i), td, p4, f4, none⟩, ⟨some q.w, .binOp .add t3 (.tmp q.u) (.const (.int .i32 1)) u3, te, p5, f5, none⟩, ⟨some q.i, .assign (.tmp q.w), tf, p6, f6, none⟩] false))) ∧
  (Nat.blt q.x N = true ∧ Nat.blt q.y N = true ∧ Nat.blt q.c N = true ∧ Nat.blt q.u N = true ∧ Nat.blt q.w N = true ∧ Nat.blt q.i N = true) ∧ q.i ≠ q.x ∧ q.i ≠ q.y ∧ q.i ≠ q.c ∧ q.x ≠ q.y ∧ q.x ≠ q.l := by
 unfold loopPat at h
 split at h
 ·rename_i r1 x1 i1 ta p1 f1 y1 l1 tb p2 f2 c1 t1 x2 y2 u2 tc p3 f3 c2 id2 body r2 u1 i2 td p4 f4 w1 t3 uu2 u3 te p5 f5 i3 w2 tf p6 f6
  cases hc : Nat.beq i1 i2 && Nat.beq i1 i3 && Nat.beq x1 x2 && Nat.beq y1 y2 && Nat.beq c1 c2 && Nat.beq u1 uu2 && Nat.beq w1 w2 && Nat.beq id id2 && Nat.blt x1 N && Nat.blt y1 N && Nat.blt c1 N && Nat.blt u1 N && Nat.blt w1 N && Nat.blt i1 N && !Nat.beq i1 x1 && !Nat.beq i1 y1 && !Nat.beq i1 c1 && !Nat.beq x1 y1 && !Nat.beq x1 l1 with
  | false => rw [hc] at h; cases h
  | true =>
   rw [hc] at h
   simp only [cond_true, Option.some.injEq] at h
   subst h
   simp only [Bool.and_eq_true] at hc
   obtain ⟨⟨⟨⟨⟨⟨⟨⟨⟨⟨⟨⟨⟨⟨⟨⟨⟨⟨g1, g2⟩, g3⟩, g4⟩, g5⟩, g6⟩, g7⟩, g8⟩, g9⟩, g10⟩, g11⟩, g12⟩, g13⟩, g14⟩, g15⟩, g16⟩, g17⟩, g18⟩, g19⟩ := hc
   have := beq_out g1; subst this
   have := beq_out g2; subst this
   have := beq_out g3; subst this
   have := beq_out g4; subst this
   have := beq_out g5; subst this
   have := beq_out g6; subst this
   have := beq_out g7; subst this
   have := beq_out g8; subst this
   exact ⟨r1, r2, t1, u2, t3, u3, ta, tb, tc, td, te, tf, p1, p2, p3, p4, p5, p6, f1, f2, f3, f4, f5, f6, rfl, ⟨g9, g10, g11, g12, g13, g14⟩, nbeq_ne g15, nbeq_ne g16, nbeq_ne g17, nbeq_ne g18, nbeq_ne g19⟩
 ·cases h
theorem isRes_out {A : WA} {s l : Nat} (h : isRes A s l = true) : lkW A s = some (.res l) := by
 unfold isRes at h
 split at h
 ·rename_i n hn; rw [hn, beq_out h]
 ·cases h
theorem isIdx_out {A : WA} {s l : Nat} (h : isIdx A s l = true) : lkW A s = some (.idx l) := by
 unfold isIdx at h
 split at h
 ·rename_i n hn; rw [hn, beq_out h]
 ·cases h
theorem i0_out {A : WA} {t : Nat} (h : i0 A t = true) : lkW A t = some (.val (.int .i32 0)) := by
 unfold i0 at h
 split at h
 ·assumption
 ·cases h
theorem isNo_out {p : Pd} (h : isNo p = true) : p = .no := by cases p <;> first | rfl | cases h
theorem lkW_drop_self (A : WA) (t : Nat) : lkW (dropW A t) t = none := by rw [lkW_drop, if_pos rfl]
theorem lkW_drop_none {A : WA} {t u : Nat} (h : lkW A u = none) : lkW (dropW A t) u = none := by
 rw [lkW_drop]
 split
 ·rfl
 ·exact h
theorem loopW_less (A : WA) (q : Lp) : lessW A (loopW A q) :=
 lessW_trans (lessW_trans (lessW_trans (lessW_trans (lessW_trans (lessW_trans (lessW_kept A) (lessW_drop _ _)) (lessW_drop _ _)) (lessW_drop _ _)) (lessW_drop _ _)) (lessW_drop _ _)) (lessW_drop _ _)
theorem Bad.wide {N g rb rs : Nat} {ev : Value} {it it' : Wi} {R R' : List Value} {w w' : World} (f : Fr rb it it' R R' w w') {a2 : Act} {w2 : World} (h : Bad N g rb ev rs it' w' a2 w2) : Bad N g rb ev rs it w a2 w2 := by
 obtain ⟨b1, b2, b3, b4, b5⟩ := h
 exact ⟨b1, b2, f.chg.trans (b3.wide (fun j hj => by rw [f.b, f.lo] at hj; exact hj)), b4, b5⟩
section
variable {P : Program} {K : Kr} {N g rb sb : Nat} {ev : Value}
theorem zs_free {k : Nat} {rows : List (Nat × Nat × Nat)} {zs zs' : List (Nat × List Value)} {S : RS} {Ad : List (Nat × Nat)} {R : List Value} {I : List Int} {it : Wi} {sst st0 st : Option (List UInt8)} {a : Act} {w : World} (H : RAt N g rb sb ev k rows zs S Ad R I it sst st0 st a w) (h : S.pd = .no) : RAt N g rb sb ev k rows zs' S Ad R I it sst st0 st a w := by
 have hp := H.pd
 refine ⟨H.kn, H.ho, H.last, H.ad, H.lens, H.row, H.box, H.ds, H.cl, H.sh, H.cells, H.rdr, ?_, H.fresh, H.rel, H.lo, H.ne, H.gl⟩
 rw [h] at hp ⊢
 exact hp
theorem condR_ok (hK : KrOk P K g ev) {k : Nat} {rows : List (Nat × Nat × Nat)} {zs : List (Nat × List Value)} {S : RS} {Ad : List (Nat × Nat)} {R : List Value} {I : List Int} {it : Wi} {sst st0 st : Option (List UInt8)} {a : Act} {w : World}
  {rs h : Nat} {q : Operand} {c d : Code} {x : RS × List (Nat × List Value)} (hq0 : evW S.A q = some (.res h)) (e : condR K P N rs zs S h c d = some x) (H : RAt N g rb sb ev k rows zs S Ad R I it sst st0 st a w) {Q : Exit → Act → World → Prop}
  (hq : ∀ R' it' st0' st' a' w', Fr rb it it' R R' w w' → RAt N g rb sb ev k rows x.2 x.1 Ad R' I it' sst st0' st' a' w' → Q .normal a' w')
  (hbad : ∀ a' w', Bad N g rb ev rs it w a' w' → (∀ s, sst = some s → Fails x.1 s) → Q .ret a' w') : (Code.cond q c d).wp P Q a w := by
 unfold condR at e
 split at e
 ·rename_i cc l z hh hpd
  cases hb : Nat.beq (h + 1) S.H.length && badR K P N rs S c with
  | false => rw [hb] at e; cases e
  | true =>
   rw [hb] at e
   simp only [cond_true, Option.some.injEq] at e
   subst e
   rw [Bool.and_eq_true] at hb
   have hlen := beq_out hb.1
   have hv := H.kn.eval hq0
   simp only [denW] at hv
   have hl := H.last .nok (a.eval q) (by rw [← hlen, Nat.add_sub_cancel]; exact hh) (by rw [← hlen, Nat.add_sub_cancel]; exact hv)
   simp only [LastV] at hl
   cases st with
   | none =>
    refine wp_cond_true (by rw [hl]; rfl) (badR_ok hK H hb.2 rfl (fun a' w' hB => hbad a' w' hB ?_))
    exact fun s hs => fails_ok (failsAt H s hs) hpd
   | some s1 =>
    refine wp_cond_false (by rw [hl]; rfl) (wp_skip (hq R it st0 (some s1) a w (Fr.refl _ _ _ _) ?_))
    have hp := H.pd
    rw [hpd] at hp
    obtain ⟨l0, h1, h2, h3⟩ := hp
    exact ⟨H.kn, H.ho, H.last, H.ad, H.lens, H.row, H.box, H.ds, H.cl, H.sh, H.cells, H.rdr, ⟨l0, s1, h1, h2, rfl, h3⟩, H.fresh, H.rel, H.lo, H.ne, H.gl⟩
 ·rename_i l' cc l hh hpd
  cases hb : Nat.beq l l' with
  | false => rw [hb] at e; cases e
  | true =>
   rw [hb] at e
   have := beq_out hb; subst this
   simp only [cond_true] at e
   split at e
   ·rename_i t u hn
    simp only [Option.some.injEq] at e
    subst e
    exact lz_ok H hq0 hh hpd hn (fun v a' w' f H' => hq _ _ _ _ a' w' f H')
   ·cases e
 ·rename_i l' cc l z hh hpd
  cases hb : Nat.beq l l' with
  | false => rw [hb] at e; cases e
  | true =>
   rw [hb] at e
   have := beq_out hb; subst this
   simp only [cond_true] at e
   split at e
   ·rename_i t xx y u z' ty hn hty
    split at e
    ·rename_i zc hzc
     cases hz : optEq z z' with
     | false => rw [hz] at e; cases e
     | true =>
      rw [hz] at e
      simp only [cond_true, Option.some.injEq] at e
      subst e
      exact lp_ok H hq0 hh hpd hn hty hzc hz (fun v a' w' f H' => hq _ _ _ _ a' w' f H')
    ·cases e
   ·cases e
 ·cases e
theorem runR_ok (hK : KrOk P K g ev) {rs : Nat} : ∀ (n k : Nat) (rows : List (Nat × Nat × Nat)) (zs : List (Nat × List Value)) (S : RS) (c : Code) (S' : RS) (zs' : List (Nat × List Value)) (e : Bool), runR K P N rs n k rows zs S c = some (S', zs', e) →
  ∀ (Ad : List (Nat × Nat)) (R : List Value) (I : List Int) (it : Wi) (sst st0 st : Option (List UInt8)) (a : Act) (w : World) (Q : Exit → Act → World → Prop), RAt N g rb sb ev k rows zs S Ad R I it sst st0 st a w →
   (∀ R' it' st0' st' a' w', Fr rb it it' R R' w w' → RAt N g rb sb ev k rows zs' S' Ad R' I it' sst st0' st' a' w' → (e = true → S'.pd = .no ∧ gt a' rs = endV ev st') → Q (if e then .ret else .normal) a' w') →
   (∀ a' w', Bad N g rb ev rs it w a' w' → (∀ s, sst = some s → Fails S' s) → Q .ret a' w') → c.wp P Q a w := by
 intro n
 induction n with
 | zero => intro k rows zs S c S' zs' e h; simp [runR] at h
 | succ n ih =>
  intro k rows zs S c S' zs' e h Ad R I it sst st0 st a w Q H hq hbad
  unfold runR at h
  split at h
  ·cases h
   exact wp_skip (hq R it st0 st a w (Fr.refl _ _ _ _) H (fun h => by cases h))
  ·split at h
   ·rename_i e0 hpd hrs
    split at h
    ·rename_i her
     cases hb : Nat.beq (e0 + 1) S.H.length && Nat.beq k 0 with
     | false => rw [hb] at h; cases h
     | true =>
      rw [hb] at h
      cases h
      rw [Bool.and_eq_true] at hb
      have hlen := beq_out hb.1
      have hv := H.kn.at_ rs _ hrs
      simp only [denW] at hv
      have hl := H.last .er (gt a rs) (by rw [← hlen, Nat.add_sub_cancel]; exact her) (by rw [← hlen, Nat.add_sub_cancel]; exact hv)
      exact wp_ret (hq R it st0 st a w (Fr.refl _ _ _ _) H (fun _ => ⟨hpd, hl⟩))
    ·cases h
   ·cases h
  ·split at h
   ·rename_i S1 hx
    cases h
    refine wp_region_lit (opsR_ok hK _ _ hx H (fun R' it' st0' st' a' w' f H' => hq R' it' st0' st' a' w' f H' (fun h => by cases h)))
   ·cases h
  ·split at h
   ·rename_i S1 zs1 h1
    refine wp_seq (ih _ _ _ _ _ _ _ _ h1 Ad R I it sst st0 st a w _ H (fun R' it' st0' st' a' w' f H' _ => ?_) (fun a' w' hB hF => ?_))
    ·exact ih _ _ _ _ _ _ _ _ h Ad R' I it' sst st0' st' a' w' Q H' (fun R'' it'' st0'' st'' a'' w'' f' H'' hr => hq R'' it'' st0'' st'' a'' w'' (f.trans f') H'' hr) (fun a'' w'' hB hF => hbad a'' w'' (hB.wide f) hF)
    ·exact hbad a' w' hB (fun s hs => runR_fails _ _ _ _ _ _ _ _ _ h s (hF s hs))
   ·rename_i S1 zs1 h1
    cases h
    exact wp_seq (ih _ _ _ _ _ _ _ _ h1 Ad R I it sst st0 st a w _ H (fun R' it' st0' st' a' w' f H' hr => hq R' it' st0' st' a' w' f H' hr) (fun a' w' hB hF => hbad a' w' hB hF))
   ·cases h
  ·split at h
   ·rename_i hq0
    have hv := H.kn.eval hq0
    simp only [denW, Option.some.injEq] at hv
    exact wp_cond_true hv.symm (ih _ _ _ _ _ _ _ _ h Ad R I it sst st0 st a w Q H hq hbad)
   ·rename_i hq0
    have hv := H.kn.eval hq0
    simp only [denW, Option.some.injEq] at hv
    exact wp_cond_false hv.symm (ih _ _ _ _ _ _ _ _ h Ad R I it sst st0 st a w Q H hq hbad)
   ·rename_i h0 hq0
    split at h
    ·rename_i x hx
     cases h
     exact condR_ok hK hq0 hx H (fun R' it' st0' st' a' w' f H' => hq R' it' st0' st' a' w' f H' (fun h => by cases h)) hbad
    ·cases h
   ·cases h
  ·split at h
   ·rename_i id b q hpat
    split at h
    ·rename_i cc l z r r' zc zs0 hpd
     cases hb : Nat.beq r r' && isRes (loopW S.A q) q.l l && i0 S.A q.i && lastRow S.H with
     | false => rw [hb] at h; cases h
     | true =>
      rw [hb] at h
      simp only [cond_true] at h
      split at h
      ·rename_i S2 zs2 hrun
       cases hc : bodyOk (loopW S.A q) k q.i zc.length S2 with
       | false => rw [hc] at h; cases h
       | true =>
        rw [hc] at h
        cases h
        simp only [Bool.and_eq_true] at hb
        obtain ⟨⟨⟨g1, g2⟩, g3⟩, g4⟩ := hb
        have := beq_out g1; subst this
        unfold bodyOk at hc
        simp only [Bool.and_eq_true] at hc
        obtain ⟨⟨⟨c1, c2⟩, c3⟩, c4⟩ := hc
        obtain ⟨r1, r2, t1, u2, t3, u3, ta, tb, tc, td, te, tf, p1, p2, p3, p4, p5, p6, f1, f2, f3, f4, f5, f6, rfl, ⟨b1, b2, b3, b4, b5, b6⟩, n1, n2, n3, n4, n5⟩ := loopPat_out hpat
        refine loopR_ok (V := loopW S.A q) (rs := rs) H hpd rfl g4 (loopW_less _ _) ?_ ?_ ?_ ?_ ?_ ?_ (isRes_out g2) (i0_out g3) b1 b2 b3 b4 b5 b6 n1 n2 n3 n4 n5 (lessW_within c1) (isIdx_out c2) (isNo_out c3) (beq_out c4)
         (fun Ad' R' I' it' st' a' w' Q' H' hq' hbad' => ih _ _ _ _ _ _ _ _ hrun Ad' R' I' it' st' st' st' a' w' Q' H' (fun R'' it'' st0'' st'' a'' w'' f H'' _ => hq' R'' it'' st0'' st'' a'' w'' f (zs_free H'' (isNo_out c3))) hbad')
         (fun st' a' w' f H' => hq R it st0 st' a' w' f H' (fun h => by cases h)) hbad
        ·unfold loopW
         exact lkW_drop_none (lkW_drop_none (lkW_drop_none (lkW_drop_none (lkW_drop_none (lkW_drop_self _ _)))))
        ·unfold loopW
         exact lkW_drop_none (lkW_drop_none (lkW_drop_none (lkW_drop_none (lkW_drop_self _ _))))
        ·unfold loopW
         exact lkW_drop_none (lkW_drop_none (lkW_drop_none (lkW_drop_self _ _)))
        ·unfold loopW
         exact lkW_drop_none (lkW_drop_none (lkW_drop_self _ _))
        ·unfold loopW
         exact lkW_drop_none (lkW_drop_self _ _)
        ·unfold loopW
         exact lkW_drop_self _ _
      ·cases h
    ·cases h
   ·rename_i id b hpat
    split at h
    ·rename_i S1 zs1 h1
     cases h
     exact wp_block (ih _ _ _ _ _ _ _ _ h1 Ad R I it sst st0 st a w _ H (fun R' it' st0' st' a' w' f H' hr => hq R' it' st0' st' a' w' f H' hr) (fun a' w' hB hF => hbad a' w' hB hF))
    ·cases h
  ·cases h
end
end Go.Proofs.YtlmnaffhadeolaaGreatDoor

namespace Go.Proofs.YtlmnaffhadeolaaGreatDoor
open Go Go.RowKit
structure Hd where
 rs : Nat
 x : Nat
 y : Nat
 f : Nat
 u : Nat
 b : Nat
 r : Nat
 rest : Code
def distinct : List Nat → Bool
 | [] => true
 | x :: r => r.all (fun y => !Nat.beq x y) && distinct r
def headF (K : Kr) (N : Nat) : Code → Option Hd
 | .seq (.region _ ⟨[⟨some rs, .assign (.const .nilIface), _, _, _, none⟩]⟩ false) (.seq (.region _ ⟨[⟨some x, .move (.tmp 0), _, _, _, none⟩, ⟨some y, .call ⟨.value (.func f), ⟨[.tmp x2]⟩, _⟩, _, _, _, none⟩]⟩ false)
   (.seq (.region _ ⟨[⟨some u, .move (.tmp 1), _, _, _, none⟩, ⟨some b, .build tb ⟨[(0, .tmp u2)]⟩, _, _, _, none⟩, ⟨some r, .alloc ta, _, _, _, none⟩, ⟨none, .store ts (.tmp r2) (.tmp b2), _, _, _, none⟩]⟩ false) rest)) =>
  bif Nat.beq x x2 && Nat.beq u u2 && Nat.beq r r2 && Nat.beq b b2 && Nat.beq tb K.rty && Nat.beq ta K.rty && Nat.beq ts K.rty && [rs, x, y, u, b, r].all (fun t => Nat.blt t N) && distinct [0, 1, 2, rs, x, y, u, b, r] then some ⟨rs, x, y, f, u, b, r, rest⟩ else none
 | _ => none
def resIs (r : Array ResultVar) (t : Nat) : Bool := match r with
 | ⟨[.tmp u]⟩ => Nat.beq u t
 | _ => false
theorem resIs_out {r : Array ResultVar} {t : Nat} (h : resIs r t = true) : r = #[.tmp t] := by
 unfold resIs at h
 split at h
 ·rw [beq_out h]
 ·cases h
def startS (q : Hd) (cs : List Value) : RS := ⟨[(0, .at_ 0 0), (2, .val (.bool false)), (q.rs, .val .nilIface), (q.r, .rdr)], [], .no, cs.map some, shDs (litsD cs), true, cs, []⟩
def readF (P : Program) (K : Kr) (f : Nat) (cs : List Value) : Option (List Value × List Ra) := match P.funcs[f]? with
 | some fn => (match fn.body with
  | some c => (match headF K fn.ntmps c with
   | some q => bif isFn P f && resIs fn.results q.rs && Nat.ble 3 fn.ntmps then (match defF P q.f with
    | some l => (match setAll l cs with
     | some cs' => (match runR K P fn.ntmps q.rs 4000 0 [] [] (startS q cs') q.rest with
      | some (S, _, true) => bif isNo S.pd then some (S.dfl, S.acts) else none
      | _ => none)
     | none => none)
    | none => none) else none
   | none => none)
  | none => none)
 | none => none
structure KrTy (P : Program) (K : Kr) : Prop where
 built : ∀ a n c, P.built K.rty [(0, .slice a n c)] = some #[.slice a n c, .bool false]
 zero : ∀ w : World, (zeroValue K.rty).run P w = .ok (.agg #[.slice none 0 0, .bool false]) w
 size : sizeIs P K.rty 2 = true
theorem headF_out {K : Kr} {N : Nat} {c : Code} {q : Hd} (h : headF K N c = some q) : ∃ (i1 i2 i3 : Nat) (ats : Array TypeId) (t1 t2 t3 t4 t5 t6 t7 : TypeId) (p1 p2 p3 p4 p5 p6 p7 : String) (f1 f2 f3 f4 f5 f6 f7 : Array Edge),
  c = .seq (.region i1 #[⟨some q.rs, .assign (.const .nilIface), t1, p1, f1, none⟩] false) (.seq (.region i2 #[⟨some q.x, .move (.tmp 0), t2, p2, f2, none⟩, ⟨some q.y, .call ⟨.value (.func q.f), #[.tmp q.x], ats⟩, t3, p3, f3, none⟩] false)
   (.seq (.region i3 #[⟨some q.u, .move (.tmp 1), t4, p4, f4, none⟩, ⟨some q.b, .build K.rty #[(0, .tmp q.u)], t5, p5, f5, none⟩, ⟨some q.r, .alloc K.rty, t6, p6, f6, none⟩, ⟨none, .store K.rty (.tmp q.r) (.tmp q.b), t7, p7, f7, none⟩] false) q.rest)) ∧
  (∀ t ∈ [q.rs, q.x, q.y, q.u, q.b, q.r], Nat.blt t N = true) ∧ distinct [0, 1, 2, q.rs, q.x, q.y, q.u, q.b, q.r] = true := by
 unfold headF at h
 split at h
 ·rename_i i1 rs t1 p1 f1 i2 x t2 p2 f2 y f x2 ats t3 p3 f3 i3 u t4 p4 f4 b tb u2 t5 p5 f5 r ta t6 p6 f6 ts r2 b2 t7 p7 f7 rest
  cases hc : Nat.beq x x2 && Nat.beq u u2 && Nat.beq r r2 && Nat.beq b b2 && Nat.beq tb K.rty && Nat.beq ta K.rty && Nat.beq ts K.rty && [rs, x, y, u, b, r].all (fun t => Nat.blt t N) && distinct [0, 1, 2, rs, x, y, u, b, r] with
  | false => rw [hc] at h; cases h
  | true =>
   rw [hc] at h
   simp only [cond_true, Option.some.injEq] at h
   subst h
   simp only [Bool.and_eq_true] at hc
   obtain ⟨⟨⟨⟨⟨⟨⟨⟨g1, g2⟩, g3⟩, g4⟩, g5⟩, g6⟩, g7⟩, g8⟩, g9⟩ := hc
   have := beq_out g1; subst this
   have := beq_out g2; subst this
   have := beq_out g3; subst this
   have := beq_out g4; subst this
   have h5 := beq_out g5; subst h5
   have h6 := beq_out g6; subst h6
   have h7 := beq_out g7; subst h7
   exact ⟨i1, i2, i3, ats, t1, t2, t3, t4, t5, t6, t7, p1, p2, p3, p4, p5, p6, p7, f1, f2, f3, f4, f5, f6, f7, rfl, fun t ht => List.all_eq_true.1 g8 t ht, g9⟩
 ·cases h
theorem distinct_out : ∀ {l : List Nat}, distinct l = true → l.Pairwise (· ≠ ·)
 | [], _ => .nil
 | x :: r, h => by
  simp only [distinct, Bool.and_eq_true, List.all_eq_true] at h
  exact .cons (fun y hy => nbeq_ne (h.1 y hy)) (distinct_out h.2)
def SrcAt (w : World) (sb : Nat) (v : Value) (s : List UInt8) : Prop := s.length ≤ srcLim ∧ ((v = .slice none 0 0 ∧ s = [] ∧ sb = 0) ∨ ∃ o c, v = .slice (some ⟨sb, o, none⟩) s.length c ∧ s.length ≤ c ∧ CellsAt w sb o (bv s) ∧ sb ≠ 0)
section
variable {P : Program} {K : Kr} {g : Nat} {ev : Value} {w : World}
theorem startS_ok {q : Hd} {cs : List Value} {N rb sb b lo : Nat} {e : TypeId} {s : List UInt8} {a : Act} (kn : KnW N rb a [(0, .at_ 0 0), (2, .val (.bool false)), (q.rs, .val .nilIface), (q.r, .rdr)] [(b, 0)] [] [0]) (hb : Box w b cs e) (hr : Rdr w rb sb (some s))
  (l1 : b < lo) (l2 : rb < lo) (l3 : sb < lo) (l4 : lo ≤ w.heap.size) (n1 : rb ≠ sb) (n2 : b ≠ rb) (n3 : b ≠ sb) (hg : w.cell? ⟨g, 0, none⟩ = some ev) (g1 : g ≠ rb) (g2 : g < lo) (g3 : g ≠ b) :
  RAt N g rb sb ev 0 [] [] (startS q cs) [(b, 0)] [] [0] ⟨b, lo, [], [], cs, e, litsD cs⟩ (some s) (some s) (some s) a w := by
 refine ⟨kn, ⟨rfl, (fun n h v hh => by simp [startS] at hh)⟩, (fun h v hh => by simp [startS] at hh), rfl, ⟨rfl, rfl⟩, (fun q rest hq => by cases hq), by simpa using hb, reps_lits _, by simp [startS], ⟨rfl, ?_⟩, ?_, hr, rfl, fun _ => ⟨rfl, rfl⟩, ⟨rfl, by simp [startS, rdAs]⟩, ⟨l1, l2, l3, l4⟩, ⟨n1, n2, n3⟩, hg, g1, g2, g3⟩
 ·intro d hd
  simp only [litsD, List.mem_map] at hd
  obtain ⟨u, _, rfl⟩ := hd
  rfl
 ·intro j u hj
  simp only [startS, List.getElem?_map, Option.map_eq_some_iff] at hj
  obtain ⟨u', hu, he⟩ := hj
  cases he
  exact hu
theorem start_act {a : Act} {N : Nat} {v0 v1 v2 : Value} {c : Code} {Q : Exit → Act → World → Prop} (h : a.tmps.size = N ∧ a.defers = [] ∧ gt a 0 = v0 ∧ gt a 1 = v1 ∧ gt a 2 = v2) (k : ∀ a0 : Act, (a0.tmps.size = N ∧ a0.defers = [] ∧ gt a0 0 = v0 ∧ gt a0 1 = v1 ∧ gt a0 2 = v2) → c.wp P Q a0 w) : c.wp P Q a w := k a h
theorem readF_ok (hK : KrOk P K g ev) (hT : KrTy P K) {f : Nat} {cs dfl : List Value} {acts : List Ra} (h : readF P K f cs = some (dfl, acts)) {b sb : Nat} {e : TypeId} {v : Value} {s s' : List UInt8} {ds : List D} (hb : Box w b cs e) (hv : SrcAt w sb v s) (hsb : sb < w.heap.size) (hne : b ≠ sb)
  (hg : w.cell? ⟨g, 0, none⟩ = some ev) (hgb : g ≠ b) (hgl : g < w.heap.size) (hs : rdAs acts (litsD dfl) s = some (ds, s')) :
  isFn P f = true ∧ Calls P f #[.pointer (some ⟨b, 0, none⟩), v, .bool false] w fun en w' => en = .returned .nilIface ∧ ∃ cs' lo, w.heap.size ≤ lo ∧ Box w' b cs' e ∧ Reps (Dk sb lo w') w' ds cs' ∧ shDs ds = shDs (litsD dfl) ∧ Chg (fun j => j = b ∨ w.heap.size ≤ j) w w' := by
 unfold readF at h
 split at h
 ·rename_i fn hfn
  split at h
  ·rename_i c hbody
   split at h
   ·rename_i q hq
    cases hc : isFn P f && resIs fn.results q.rs && Nat.ble 3 fn.ntmps with
    | false => rw [hc] at h; cases h
    | true =>
     rw [hc] at h
     simp only [cond_true] at h
     simp only [Bool.and_eq_true] at hc
     obtain ⟨⟨hf, hres⟩, hn⟩ := hc
     have hres := resIs_out hres
     have hn3 : 3 ≤ fn.ntmps := Nat.le_of_ble_eq_true hn
     split at h
     ·rename_i l hl
      split at h
      ·rename_i cs1 hset
       split at h
       ·rename_i S zs hrun
        cases hno : isNo S.pd with
        | false => rw [hno] at h; cases h
        | true =>
        rw [hno] at h
        simp only [cond_true, Option.some.injEq, Prod.mk.injEq] at h
        obtain ⟨h1, h2⟩ := h
        have hnp := isNo_out hno
        obtain ⟨i1, i2, i3, ats, t1, t2, t3, t4, t5, t6, t7, p1, p2, p3, p4, p5, p6, p7, f1, f2, f3, f4, f5, f6, f7, rfl, hlt, hdis⟩ := headF_out hq
        simp only [List.mem_cons, List.not_mem_nil, or_false, forall_eq_or_imp, forall_eq] at hlt
        obtain ⟨b1, b2, b3, b4, b5, b6⟩ := hlt
        have hd := distinct_out hdis
        simp only [List.pairwise_cons, List.mem_cons, List.not_mem_nil, or_false, forall_eq_or_imp, forall_eq] at hd
        obtain ⟨⟨_, _, d03, d04, d05, d06, d07, d08⟩, ⟨_, d13, d14, d15, d16, d17, d18⟩, ⟨d23, d24, d25, d26, d27, d28⟩, ⟨d34, d35, d36, d37, d38⟩, ⟨d45, d46, d47, d48⟩, ⟨d56, d57, d58⟩, ⟨d67, d68⟩, d78, _⟩ := hd
        refine ⟨hf, calls_of_wp hfn hbody ?_⟩
        refine start_act (N := fn.ntmps) (v0 := .pointer (some ⟨b, 0, none⟩)) (v1 := v) (v2 := .bool false) ?_ ?_
        ·refine ⟨by simp; omega, rfl, ?_, ?_, ?_⟩ <;>
         ·simp only [gt, Array.getD_eq_getD_getElem?]
          rw [Array.getElem?_append_left (by simp)]; rfl
        intro a0 z
        obtain ⟨z0, z1, z2, z3, z4⟩ := z
        have le_of : ∀ {t : Nat}, Nat.blt t fn.ntmps = true → t < fn.ntmps := fun h => Nat.le_of_ble_eq_true h
        refine wp_seq (wp_region_lit (st_assign ?_))
        show wpList P _ _ [] (a0.put (some q.rs) .nilIface) w
        obtain ⟨a1, ha1⟩ : ∃ a1 : Act, a1 = a0.put (some q.rs) .nilIface := ⟨_, rfl⟩
        rw [← ha1]
        have z' : a1.tmps.size = fn.ntmps ∧ a1.defers = [] ∧ gt a1 0 = .pointer (some ⟨b, 0, none⟩) ∧ gt a1 1 = v ∧ gt a1 2 = .bool false ∧ gt a1 q.rs = .nilIface := by
         subst ha1
         exact ⟨by rw [put_size]; exact z0, by rw [put_defers]; exact z1, by rw [gt_put_ne _ _ _ _ d03]; exact z2, by rw [gt_put_ne _ _ _ _ d13]; exact z3, by rw [gt_put_ne _ _ _ _ d23]; exact z4, gt_put_same _ _ _ (by rw [z0]; exact le_of b1)⟩
        clear ha1 z0 z1 z2 z3 z4
        obtain ⟨z0, z1, z2, z3, z4, z5⟩ := z'
        refine wp_seq (wp_region_lit (st_move ?_))
        rw [eval_tmp, z2]
        obtain ⟨a2, ha2⟩ : ∃ a2 : Act, a2 = a1.put (some q.x) (.pointer (some ⟨b, 0, none⟩)) := ⟨_, rfl⟩
        rw [← ha2]
        have z' : a2.tmps.size = fn.ntmps ∧ a2.defers = [] ∧ gt a2 0 = .pointer (some ⟨b, 0, none⟩) ∧ gt a2 1 = v ∧ gt a2 2 = .bool false ∧ gt a2 q.rs = .nilIface ∧ gt a2 q.x = .pointer (some ⟨b, 0, none⟩) := by
         subst ha2
         exact ⟨by rw [put_size]; exact z0, by rw [put_defers]; exact z1, by rw [gt_put_ne _ _ _ _ d04]; exact z2, by rw [gt_put_ne _ _ _ _ d14]; exact z3, by rw [gt_put_ne _ _ _ _ d24]; exact z4, by rw [gt_put_ne _ _ _ _ d34]; exact z5, gt_put_same _ _ _ (by rw [z0]; exact le_of b2)⟩
        clear ha2 z0 z1 z2 z3 z4 z5
        obtain ⟨z0, z1, z2, z3, z4, z5, z6⟩ := z'
        have hdef := defF_ok (w := w) hl (b := b) (pre := []) (cs := cs) (post := []) (e := e) (by simpa using hb) hset
        refine st_call hdef.1 ?_
        have ea : (#[.tmp q.x] : Array Operand).map a2.eval = #[.pointer (some ⟨b, 0, none⟩)] := by simp only [List.map_toArray, List.map_cons, List.map_nil, eval_tmp, z6]
        rw [ea]
        refine hdef.2.mono (fun en w1 he => ?_)
        obtain ⟨rfl, hb1, hc1⟩ := he
        refine ⟨_, rfl, ?_⟩
        show Code.wp P _ _ _ _
        obtain ⟨a3, ha3⟩ : ∃ a3 : Act, a3 = a2.put (some q.y) (.tuple #[]) := ⟨_, rfl⟩
        rw [← ha3]
        have z' : a3.tmps.size = fn.ntmps ∧ a3.defers = [] ∧ gt a3 0 = .pointer (some ⟨b, 0, none⟩) ∧ gt a3 1 = v ∧ gt a3 2 = .bool false ∧ gt a3 q.rs = .nilIface := by
         subst ha3
         exact ⟨by rw [put_size]; exact z0, by rw [put_defers]; exact z1, by rw [gt_put_ne _ _ _ _ d05]; exact z2, by rw [gt_put_ne _ _ _ _ d15]; exact z3, by rw [gt_put_ne _ _ _ _ d25]; exact z4, by rw [gt_put_ne _ _ _ _ d35]; exact z5⟩
        clear ha3 z0 z1 z2 z3 z4 z5 z6
        obtain ⟨z0, z1, z2, z3, z4, z5⟩ := z'
        obtain ⟨aa, nn, cc, hvs⟩ : ∃ aa nn cc, v = .slice aa nn cc := by
         rcases hv.2 with ⟨rfl, _⟩ | ⟨o, c, rfl, _⟩
         ·exact ⟨_, _, _, rfl⟩
         ·exact ⟨_, _, _, rfl⟩
        refine wp_seq (wp_region_lit (st_move ?_))
        rw [eval_tmp, z3]
        obtain ⟨a4, ha4⟩ : ∃ a4 : Act, a4 = a3.put (some q.u) v := ⟨_, rfl⟩
        rw [← ha4]
        have z' : a4.tmps.size = fn.ntmps ∧ a4.defers = [] ∧ gt a4 0 = .pointer (some ⟨b, 0, none⟩) ∧ gt a4 2 = .bool false ∧ gt a4 q.rs = .nilIface ∧ gt a4 q.u = v := by
         subst ha4
         exact ⟨by rw [put_size]; exact z0, by rw [put_defers]; exact z1, by rw [gt_put_ne _ _ _ _ d06]; exact z2, by rw [gt_put_ne _ _ _ _ d26]; exact z4, by rw [gt_put_ne _ _ _ _ d36]; exact z5, gt_put_same _ _ _ (by rw [z0]; exact le_of b4)⟩
        clear ha4 z0 z1 z2 z3 z4 z5
        obtain ⟨z0, z1, z2, z4, z5, z6⟩ := z'
        have hbuilt := run_build (P := P) w1 K.rty (#[(0, .tmp q.u)].map fun x => (x.1, a4.eval x.2)) #[v, .bool false] (by
         simp only [List.map_toArray, List.map_cons, List.map_nil, eval_tmp, z6]
         rw [hvs]; exact hT.built aa nn cc)
        refine st_of (o := ⟨some q.b, .build K.rty #[(0, .tmp q.u)], t5, p5, f5, none⟩) (v := .agg #[v, .bool false]) (w' := w1) rfl (by simp only [execOp, Sem.run_bind, hbuilt, Result.andThen_ok, Sem.run_pure]) ?_
        obtain ⟨a5, ha5⟩ : ∃ a5 : Act, a5 = a4.put (some q.b) (.agg #[v, .bool false]) := ⟨_, rfl⟩
        show wpList P _ _ _ (a4.put (some q.b) (.agg #[v, .bool false])) w1
        rw [← ha5]
        have z' : a5.tmps.size = fn.ntmps ∧ a5.defers = [] ∧ gt a5 0 = .pointer (some ⟨b, 0, none⟩) ∧ gt a5 2 = .bool false ∧ gt a5 q.rs = .nilIface ∧ gt a5 q.b = .agg #[v, .bool false] := by
         subst ha5
         exact ⟨by rw [put_size]; exact z0, by rw [put_defers]; exact z1, by rw [gt_put_ne _ _ _ _ d07]; exact z2, by rw [gt_put_ne _ _ _ _ d27]; exact z4, by rw [gt_put_ne _ _ _ _ d37]; exact z5, gt_put_same _ _ _ (by rw [z0]; exact le_of b5)⟩
        clear ha5 z0 z1 z2 z4 z5 z6
        obtain ⟨z0, z1, z2, z4, z5, z6⟩ := z'
        refine st_of (o := ⟨some q.r, .alloc K.rty, t6, p6, f6, none⟩) (v := .pointer (some ⟨w1.heap.size, 0, none⟩)) (w' := w1.alloc (.cells #[.slice none 0 0, .bool false] K.rty)) rfl (by simp [execOp, Instr.alloc, hT.zero, newVar, newRow, Value.cells]) ?_
        obtain ⟨a6, ha6⟩ : ∃ a6 : Act, a6 = a5.put (some q.r) (.pointer (some ⟨w1.heap.size, 0, none⟩)) := ⟨_, rfl⟩
        show wpList P _ _ _ (a5.put (some q.r) (.pointer (some ⟨w1.heap.size, 0, none⟩))) _
        rw [← ha6]
        have z' : a6.tmps.size = fn.ntmps ∧ a6.defers = [] ∧ gt a6 0 = .pointer (some ⟨b, 0, none⟩) ∧ gt a6 2 = .bool false ∧ gt a6 q.rs = .nilIface ∧ gt a6 q.b = .agg #[v, .bool false] ∧ gt a6 q.r = .pointer (some ⟨w1.heap.size, 0, none⟩) := by
         subst ha6
         exact ⟨by rw [put_size]; exact z0, by rw [put_defers]; exact z1, by rw [gt_put_ne _ _ _ _ d08]; exact z2, by rw [gt_put_ne _ _ _ _ d28]; exact z4, by rw [gt_put_ne _ _ _ _ d38]; exact z5, by rw [gt_put_ne _ _ _ _ d78]; exact z6, gt_put_same _ _ _ (by rw [z0]; exact le_of b6)⟩
        clear ha6 z0 z1 z2 z4 z5 z6
        obtain ⟨z0, z1, z2, z4, z5, z6, z7⟩ := z'
        have hbx : Box (w1.alloc (.cells #[.slice none 0 0, .bool false] K.rty)) w1.heap.size [.slice none 0 0, .bool false] K.rty := box_alloc w1 _ _
        have hal : Chg (fun _ => False) w1 (w1.alloc (.cells #[.slice none 0 0, .bool false] K.rty)) := chg_alloc w1 _ _
        have hsz2 : (w1.alloc (.cells #[.slice none 0 0, .bool false] K.rty)).heap.size = w1.heap.size + 1 := by simp
        generalize w1.alloc (.cells #[.slice none 0 0, .bool false] K.rty) = w2 at hbx hal hsz2 ⊢
        refine st_storeSeg (b := w1.heap.size) (off := 0) (A := []) (C := []) (seg := [.slice none 0 0, .bool false]) (vs := [v, .bool false]) (by rw [eval_tmp, z7]) (by rw [eval_tmp, z6]) (by simp [Value.cells]) hT.size (by rw [hvs]; rfl) (by simpa using hbx) rfl rfl (fun w3 hb3 hg3 => ?_)
        have hc3 : Chg (· = w1.heap.size) w2 w3 := Chg.grown hg3
        have hsz := hc1.size
        have hbsz := hb.lt
        have cc : Chg (fun j => j = b ∨ j = w1.heap.size) w w3 := (hc1.wide (fun j hj => .inl hj)).trans ((hal.wide (fun j hj => hj.elim)).trans (hc3.wide (fun j hj => .inr hj)))
        have hb3' : Box w3 w1.heap.size [v, .bool false] K.rty := by simpa using hb3
        have hbb : Box w3 b cs1 e := ((by simpa using hb1 : Box w1 b cs1 e).chg hal id).chg hc3 (by omega)
        have hrdr : Rdr w3 w1.heap.size sb (some s) := by
         refine ⟨v, K.rty, hb3', hv.1, ?_, fun hz => ?_⟩
         ·rcases hv.2 with h | ⟨o, c, e1, e2, e3, e4⟩
          ·exact .inl ⟨h.1, h.2.1⟩
          ·exact .inr ⟨o, c, e1, e2, e3.chg cc (by rintro (h | h); exact hne h.symm; omega), e4⟩
         ·rcases hv.2 with h | ⟨o, c, e1, e2, e3, e4⟩
          ·exact absurd h.2.2 hz
          ·rw [e1]; simp
        have hgg : w3.cell? ⟨g, 0, none⟩ = some ev := by
         have hg3' : w3.heap[g]? = w.heap[g]? := cc.block g hgl (by rintro (h | h); exact hgb h; omega)
         simp only [World.cell?] at hg ⊢
         rw [hg3']; exact hg
        have kn : KnW fn.ntmps w1.heap.size (a6.put none undef) [(0, .at_ 0 0), (2, .val (.bool false)), (q.rs, .val .nilIface), (q.r, .rdr)] [(b, 0)] [] [0] := by
         refine ⟨z0, z1, fun t x e => ?_⟩
         have e' := lkW_mem e
         simp only [List.mem_cons, List.not_mem_nil, or_false, Prod.mk.injEq] at e'
         show _ = some (gt a6 t)
         rcases e' with ⟨rfl, rfl⟩ | ⟨rfl, rfl⟩ | ⟨rfl, rfl⟩ | ⟨rfl, rfl⟩
         ·rw [z2]; rfl
         ·rw [z4]; rfl
         ·rw [z5]; rfl
         ·rw [z7]; rfl
        have hst := startS_ok (g := g) (ev := ev) (lo := w1.heap.size + 1) kn hbb hrdr (by omega) (by omega) (by omega) (by have := hc3.size; omega) (by omega) (by omega) hne hgg (by omega) (by omega) hgb
        have hs3 := hc3.size
        refine runR_ok hK _ _ _ _ _ _ _ _ _ hrun _ _ _ _ _ _ _ _ _ _ hst ?_ ?_
        ·intro R' it' st0' st' a' w' f H' hr
         obtain ⟨hpd, hrs⟩ := hr rfl
         have hp := H'.pd
         rw [hpd] at hp
         have hp' : st' = st0' := hp
         subst hp'
         have hrel := H'.rel
         rw [h1, h2] at hrel
         obtain ⟨hsh, hrel⟩ := hrel
         simp only [hs] at hrel
         obtain ⟨hst', hds⟩ := hrel
         refine ⟨H'.kn.defers, .nilIface, ?_, rfl, it'.cs, w1.heap.size + 1, by omega, ?_, ?_, ?_, ?_⟩
         ·rw [results_tmp hres]
          have : gt a' q.rs = .nilIface := by rw [hrs, hst']; rfl
          simp only [gt] at this
          rw [this]
         ·have := H'.box
          rw [f.b, f.pre, f.post, f.e] at this
          simpa using this
         ·have := H'.ds
          rw [hds, f.lo] at this
          exact this
         ·rw [← hds]; exact hsh
         ·exact (cc.wide (fun j hj => by rcases hj with h | h; exact .inl h; exact .inr (by omega))).trans (f.chg.wide (fun j hj => by simp only [] at hj; rcases hj with h | h | h; exact .inr (by omega); exact .inl h; exact .inr (by omega)))
        ·intro a' w' hB hF
         have := hF s rfl
         unfold Fails at this
         have h3 := this (ds, s') (by rw [h1, h2]; exact hs)
         rw [hnp] at h3
         exact h3.elim
       ·cases h
      ·cases h
     ·cases h
   ·cases h
  ·cases h
 ·cases h
end
end Go.Proofs.YtlmnaffhadeolaaGreatDoor

namespace Go.Proofs.YtlmnaffhadeolaaGreatDoor
open Go Go.RowKit
def SrcV (w : World) (sb : Nat) (v : Value) (s : List UInt8) : Prop := (v = .slice none 0 0 ∧ s = []) ∨ ∃ o c, v = .slice (some ⟨sb, o, none⟩) s.length c ∧ s.length ≤ c ∧ CellsAt w sb o (bv s) ∧ sb ≠ 0
theorem Rdr.view {w : World} {rb sb : Nat} {st : Option (List UInt8)} (h : Rdr w rb sb st) : ∃ a c s e, Box w rb [.slice a s.length c, .bool st.isNone] e ∧ s.length ≤ c ∧ s.length ≤ srcLim ∧ SrcV w sb (.slice a s.length c) s ∧ ((st = none ∧ s = [] ∧ a = none ∧ c = 0) ∨ st = some s) := by
 cases st with
 | none =>
  obtain ⟨e, h⟩ := h
  exact ⟨none, 0, [], e, h, Nat.le_refl _, Nat.zero_le _, .inl ⟨rfl, rfl⟩, .inl ⟨rfl, rfl, rfl, rfl⟩⟩
 | some s =>
  obtain ⟨v, e, hb, hl, hv, _⟩ := h
  rcases hv with ⟨rfl, rfl⟩ | ⟨o, c, rfl, hle, hc⟩
  ·exact ⟨none, 0, [], e, hb, Nat.le_refl _, Nat.zero_le _, .inl ⟨rfl, rfl⟩, .inr rfl⟩
  ·exact ⟨some ⟨sb, o, none⟩, c, s, e, hb, hle, hl, .inr ⟨o, c, rfl, hle, hc⟩, .inr rfl⟩
theorem SrcV.rdr {w : World} {rb sb : Nat} {v : Value} {s : List UInt8} {e : TypeId} (h : SrcV w sb v s) (hb : Box w rb [v, .bool false] e) (hn : sb ≠ 0 → v ≠ .slice none 0 0) (hl : s.length ≤ srcLim) : Rdr w rb sb (some s) := ⟨v, e, hb, hl, h, hn⟩
theorem SrcV.chg {S : Nat → Prop} {w w' : World} {sb : Nat} {v : Value} {s : List UInt8} (h : SrcV w sb v s) (hc : Chg S w w') (hs : ¬ S sb) : SrcV w' sb v s := by
 rcases h with h | ⟨o, c, e, hle, hcs, hz⟩
 ·exact .inl h
 ·exact .inr ⟨o, c, e, hle, hcs.chg hc hs, hz⟩
theorem nn_drop {c m n k : Nat} {p : Addr} : Value.slice (if c = m then some p else (some p).map (·.add m)) n k ≠ .slice none 0 0 := by split <;> simp
theorem Rdr.nn {w : World} {rb sb : Nat} {s : List UInt8} {v x : Value} {e : TypeId} (h : Rdr w rb sb (some s)) (hb : Box w rb [v, x] e) (hz : sb ≠ 0) : v ≠ .slice none 0 0 := by
 obtain ⟨v', e', hb', _, _, hn⟩ := h
 have h1 := hb'.cell0 (i := 0) rfl
 have h2 := hb.cell0 (i := 0) rfl
 rw [h1] at h2
 simp only [Option.some.injEq] at h2
 rw [← h2]; exact hn hz
theorem SrcV.nz {w : World} {sb : Nat} {v : Value} {s : List UInt8} (h : SrcV w sb v s) (hs : s ≠ []) : sb ≠ 0 := by
 rcases h with ⟨_, h⟩ | ⟨_, _, _, _, _, h⟩
 ·exact absurd h hs
 ·exact h
theorem Rdr.nz {w : World} {rb sb : Nat} {s : List UInt8} (h : Rdr w rb sb (some s)) (hs : s ≠ []) : sb ≠ 0 := by
 obtain ⟨v, e, _, _, h, _⟩ := h
 exact SrcV.nz h hs
theorem Rdr.nn_drop {w : World} {rb sb m : Nat} {s : List UInt8} {a : Option Addr} {n c k l : Nat} {x : Value} {e : TypeId} (h : Rdr w rb sb (some s)) (hb : Box w rb [.slice a n c, x] e) (hv : SrcV w sb (.slice a n c) s) (hz : sb ≠ 0) : Value.slice (if c = m then a else a.map (·.add m)) l k ≠ .slice none 0 0 := by
 have h1 := h.nn hb hz
 cases a with
 | none =>
  exfalso
  rcases hv with ⟨e, _⟩ | ⟨o, c', e, _⟩
  ·exact h1 e
  ·simp at e
 | some p => exact _root_.Go.Proofs.YtlmnaffhadeolaaGreatDoor.nn_drop
theorem Rdr.nn_take {w : World} {rb sb : Nat} {s : List UInt8} {a : Option Addr} {n c k l : Nat} {x : Value} {e : TypeId} (h : Rdr w rb sb (some s)) (hb : Box w rb [.slice a n c, x] e) (hv : SrcV w sb (.slice a n c) s) (hz : sb ≠ 0) : Value.slice a l k ≠ .slice none 0 0 := by
 have h1 := h.nn hb hz
 cases a with
 | none =>
  exfalso
  rcases hv with ⟨e, _⟩ | ⟨o, c', e, _⟩
  ·exact h1 e
  ·simp at e
 | some p => simp
theorem bv_take (s : List UInt8) (m : Nat) : bv (s.take m) = (bv s).take m := by simp [bv]
theorem bv_drop (s : List UInt8) (m : Nat) : bv (s.drop m) = (bv s).drop m := by simp [bv]
theorem bv_len (s : List UInt8) : (bv s).length = s.length := by simp [bv]
theorem SrcV.drop {w : World} {sb : Nat} {a : Option Addr} {c m : Nat} {s : List UInt8} (h : SrcV w sb (.slice a s.length c) s) (hm : m ≤ s.length) : SrcV w sb (.slice (if c = m then a else a.map (·.add m)) (s.length - m) (c - m)) (s.drop m) := by
 rcases h with ⟨e, rfl⟩ | ⟨o, c', e, hle, hcs, hz⟩
 ·simp only [Value.slice.injEq] at e
  obtain ⟨rfl, _, rfl⟩ := e
  simp only [List.length_nil, Nat.le_zero] at hm
  subst hm
  exact .inl ⟨by simp, rfl⟩
 ·simp only [Value.slice.injEq, true_and] at e
  obtain ⟨rfl, rfl⟩ := e
  have hcs' : CellsAt w sb (o + m) (bv (s.drop m)) := by
   have h1 : bv s = (bv s).take m ++ (bv s).drop m := (List.take_append_drop _ _).symm
   rw [h1] at hcs
   have := hcs.right
   rw [List.length_take, bv_len, Nat.min_eq_left hm, ← bv_drop] at this
   exact this
  by_cases hcm : c = m
  ·subst hcm
   have : s.drop c = [] := List.drop_eq_nil_of_le hle
   right
   refine ⟨o, 0, ?_, by simp [this], ?_, hz⟩
   ·simp only [if_true, Nat.sub_self, List.length_drop]
   ·rw [this]
    obtain ⟨arr, e, fz, h1, h2, h3⟩ := hcs
    exact ⟨arr, e, fz, h1, by simp [bv]; omega, fun i v hv => by simp [bv] at hv⟩
  ·right
   refine ⟨o + m, c - m, ?_, by simp; omega, hcs', hz⟩
   simp [hcm, Addr.add]
theorem SrcV.take {w : World} {sb : Nat} {a : Option Addr} {c m : Nat} {s : List UInt8} (h : SrcV w sb (.slice a s.length c) s) (hm : m ≤ s.length) : SrcV w sb (.slice a m m) (s.take m) := by
 rcases h with ⟨e, rfl⟩ | ⟨o, c', e, hle, hcs, hz⟩
 ·simp only [Value.slice.injEq] at e
  obtain ⟨rfl, _, rfl⟩ := e
  simp only [List.length_nil, Nat.le_zero] at hm
  subst hm
  exact .inl ⟨rfl, rfl⟩
 ·simp only [Value.slice.injEq, true_and] at e
  obtain ⟨rfl, rfl⟩ := e
  right
  have hl : (s.take m).length = m := by simp; omega
  refine ⟨o, m, by rw [hl], by rw [hl]; exact Nat.le_refl _, ?_, hz⟩
  have h1 : bv s = bv (s.take m) ++ (bv s).drop m := by rw [bv_take]; exact (List.take_append_drop _ _).symm
  rw [h1] at hcs
  exact hcs.left
theorem SrcV.cell {w : World} {sb : Nat} {a : Option Addr} {c i : Nat} {s : List UInt8} (h : SrcV w sb (.slice a s.length c) s) (hi : i < s.length) : ∃ o, a = some ⟨sb, o, none⟩ ∧ w.cell? ⟨sb, o + i * 1, none⟩ = some (.int .u8 s[i].toNat) := by
 rcases h with ⟨e, rfl⟩ | ⟨o, c', e, hle, hcs, hz⟩
 ·cases hi
 ·simp only [Value.slice.injEq, true_and] at e
  obtain ⟨rfl, rfl⟩ := e
  refine ⟨o, rfl, ?_⟩
  rw [Nat.mul_one]
  exact hcs.cell (by simp [bv, hi])
theorem SrcV.sq {w : World} {sb lo : Nat} {v : Value} {s : List UInt8} (h : SrcV w sb v s) (hs : sb < w.heap.size) : Rep (Dk sb lo w) w (.sq (s.map byteD)) [v] := by
 simp only [Rep, List.length_map]
 rcases h with ⟨rfl, rfl⟩ | ⟨o, c, rfl, hle, hcs, _⟩
 ·exact ⟨none, 0, rfl, Nat.le_refl _, .inl rfl⟩
 ·exact ⟨_, c, rfl, hle, .inr ⟨sb, o, bv s, rfl, ⟨.inl rfl, hs⟩, hcs, (reps_bytes s _).2 rfl⟩⟩
def RdC (P : Program) (f : Nat) (p : Rp) : Prop := ∀ (w : World) (rb sb lo : Nat) (st : Option (List UInt8)), Rdr w rb sb st → rb < lo → sb < lo → lo ≤ w.heap.size → rb ≠ sb →
  Calls P f #[.pointer (some ⟨rb, 0, none⟩)] w fun e w' => ∃ v nd st', e = .returned v ∧ Chg (· = rb) w w' ∧ Rdr w' rb sb st' ∧ Reps (Dk sb lo w') w' nd v.cells.toList ∧ (v.cells.toList.all fun v => v.oneCell') = true ∧ ((shR p).length = 1 → v.cells = #[v]) ∧ RdRel p st nd st'
def LenC (P : Program) (f : Nat) (c : Bool) : Prop := ∀ (w : World) (rb sb lo : Nat) (st : Option (List UInt8)), Rdr w rb sb st → rb < lo → sb < lo → lo ≤ w.heap.size → rb ≠ sb →
  Calls P f #[.pointer (some ⟨rb, 0, none⟩)] w fun e w' => ∃ l st', e = .returned (.int .i32 l) ∧ Chg (· = rb) w w' ∧ Rdr w' rb sb st' ∧ LenRel c st l st'
section
variable {P : Program} {ops : Array Oper} {Q : Exit → Act → World → Prop} {N : Nat} {rest : List Oper} {L : Sl} {w : World} {d : Nat} {ty : TypeId} {pos : String} {aft : Array Edge}
theorem wl_sliceLo {x y : Operand} {t : TypeId} {a : Option Addr} {n c m : Nat} {kk : IntKind} (hx : ev L x = some (.slice a n c)) (hy : ev L y = some (.int kk (m : Int))) (ht : elemSize P t = some 1) (hd : Nat.blt d N = true) (hm : m ≤ n)
  (h : WL rest P ops Q N ((d, .slice (if c = m then a else a.map (·.add m)) (n - m) (c - m)) :: L) w) : WL (⟨some d, .slice t x (some y) none none, ty, pos, aft, none⟩ :: rest) P ops Q N L w := by
 intro b k
 refine st_of (o := ⟨some d, .slice t x (some y) none none, ty, pos, aft, none⟩) (v := .slice (if c = m then a else a.map (·.add m)) (n - m) (c - m)) rfl ?_ (h _ (k.put _ hd))
 unfold elemSize at ht
 split at ht
 ·rename_i e he
  cases hie : P.info? e with
  | none => simp [hie] at ht
  | some inf =>
   simp only [hie, Option.map_some, Option.some.injEq] at ht
   simp only [execOp, k.eval hx, Option.map_some, Option.map_none, k.eval hy]
   simp [Instr.sliceAt, Instr.slice, run_underlying he, Instr.sliceBounds, Instr.sliceBound, asIntOf, sizeOf, typeInfo, hie, hm, ht]
 ·cases ht
theorem wl_slice3 {x y z : Operand} {t : TypeId} {a : Option Addr} {n c m : Nat} {kk kz : IntKind} (hx : ev L x = some (.slice a n c)) (hy : ev L y = some (.int kk (m : Int))) (hz : ev L z = some (.int kz (m : Int))) (ht : elemSize P t = some 1) (hd : Nat.blt d N = true) (hm : m ≤ c)
  (h : WL rest P ops Q N ((d, .slice a m m) :: L) w) : WL (⟨some d, .slice t x none (some y) (some z), ty, pos, aft, none⟩ :: rest) P ops Q N L w := by
 intro b k
 refine st_of (o := ⟨some d, .slice t x none (some y) (some z), ty, pos, aft, none⟩) (v := .slice a m m) rfl ?_ (h _ (k.put _ hd))
 unfold elemSize at ht
 split at ht
 ·rename_i e he
  cases hie : P.info? e with
  | none => simp [hie] at ht
  | some inf =>
   simp only [execOp, k.eval hx, Option.map_some, Option.map_none, k.eval hy, k.eval hz]
   cases a <;> simp [Instr.sliceAt, Instr.slice, run_underlying he, Instr.sliceBounds, Instr.sliceBound, asIntOf, sizeOf, typeInfo, hie, hm, Addr.add]
 ·cases ht
end
end Go.Proofs.YtlmnaffhadeolaaGreatDoor

namespace Go.Proofs.YtlmnaffhadeolaaGreatDoor
open Go Go.RowKit
def HoldV (ver kind nul : Int) (t : Tree) (d : D) : Prop :=
  if kind = 9 ∧ ¬ (0 ≤ nul ∧ nul ≤ ver) then d.isAgg = false ∧ shD d = [.sl] ∧ ∃ n, sliceOf d = some (n, t.s.map byteD) else d = valK kind nul t
def HoldS (ver nul : Int) (t : Tree) (Q : List D → Prop) (d : D) : Prop :=
  (0 ≤ nul ∧ t.nul = true ∧ d = .sl true []) ∨ (¬ (0 ≤ nul ∧ t.nul = true) ∧ d.isAgg = false ∧ shD d = [.sl] ∧ ∃ n els, sliceOf d = some (n, els) ∧ (0 ≤ nul → nul ≤ ver → isnOf d = some false) ∧ els.length = t.l.length ∧ Q els)
def HoldU (tg flex : Bool) (t : Tree) (b : List D) : Prop := if tg then (if flex then b = [tagsK t.u] else ∃ d, b = [d] ∧ shD d = [.mp]) else b = []
mutual
def HoldF (ver : Int) (tg flex : Bool) : Fld → Tree → List D → Prop
  | .mk kind _ _ nul _ _ of sub, t, ds =>
    if kind = 11 then ∃ d, ds = [d] ∧ HoldS ver nul t (fun els =>
      (if of = 10 then ∀ i, i < t.l.length → ∃ a b, els[i]? = some (.agg (a ++ b)) ∧ HoldFs ver tg flex sub 0 (att t i) a ∧ HoldU tg flex (att t i) b
       else els = t.l.map (valK of (-1)))) d
    else if kind = 10 then (if 0 ≤ nul then (t.nul = true ∧ ds = [.lit (.pointer none)]) ∨ (t.nul = false ∧ ∃ a b, ds = [.ptr (.agg (a ++ b))] ∧ HoldFs ver tg flex sub 0 t a ∧ HoldU tg flex t b)
      else ∃ a b, ds = a ++ b ∧ HoldFs ver tg flex sub 0 t a ∧ HoldU tg flex t b)
    else ∃ d, ds = [d] ∧ HoldV ver kind nul t d
def HoldFs (ver : Int) (tg flex : Bool) : List Fld → Nat → Tree → List D → Prop
  | [], _, _, ds => ds = []
  | f :: fs, i, t, ds => ∃ a b, ds = a ++ b ∧ shDs a = shF tg f ∧ pos a ∧ (f.has ver = true → HoldF ver tg flex f (att t i) a) ∧ HoldFs ver tg flex fs (i + 1) t b
end
def HoldP (ver : Int) (tg flex : Bool) (fs : List Fld) (t : Tree) (ds : List D) : Prop := ∃ a b, ds = a ++ b ∧ HoldFs ver tg flex fs 0 t a ∧ HoldU tg flex t b
theorem HoldF_mk (ver : Int) (tg flex : Bool) (kind fr upto nul tag df of : Int) (sub : List Fld) (t : Tree) (ds : List D) : HoldF ver tg flex (.mk kind fr upto nul tag df of sub) t ds ↔
    if kind = 11 then ∃ d, ds = [d] ∧ HoldS ver nul t (fun els => if of = 10 then ∀ i, i < t.l.length → ∃ ps, els[i]? = some (.agg ps) ∧ HoldP ver tg flex sub (att t i) ps else els = t.l.map (valK of (-1))) d
    else if kind = 10 then (if 0 ≤ nul then (t.nul = true ∧ ds = [.lit (.pointer none)]) ∨ (t.nul = false ∧ ∃ ps, ds = [.ptr (.agg ps)] ∧ HoldP ver tg flex sub t ps) else HoldP ver tg flex sub t ds)
    else ∃ d, ds = [d] ∧ HoldV ver kind nul t d := by
  simp only [HoldF, HoldP]
  by_cases h11 : kind = 11
  · simp only [h11, if_true]
    by_cases h10 : of = 10
    · simp only [h10, if_true]
      have e : ∀ els : List D, (∀ i, i < t.l.length → ∃ a b, els[i]? = some (.agg (a ++ b)) ∧ HoldFs ver tg flex sub 0 (att t i) a ∧ HoldU tg flex (att t i) b) ↔ (∀ i, i < t.l.length → ∃ ps, els[i]? = some (.agg ps) ∧ ∃ a b, ps = a ++ b ∧ HoldFs ver tg flex sub 0 (att t i) a ∧ HoldU tg flex (att t i) b) := by
        intro els
        constructor
        · intro h i hi
          obtain ⟨a, b, k1, k2, k3⟩ := h i hi
          exact ⟨a ++ b, k1, a, b, rfl, k2, k3⟩
        · intro h i hi
          obtain ⟨ps, k1, a, b, rfl, k2, k3⟩ := h i hi
          exact ⟨a, b, k1, k2, k3⟩
      simp only [e]
    · simp only [h10, if_false]
  · simp only [h11, if_false]
    by_cases h10 : kind = 10
    · simp only [h10, if_true]
      by_cases hn : 0 ≤ nul
      · simp only [hn, if_true]
        constructor
        · rintro (h | ⟨h1, a, b, h2, h3, h4⟩)
          · exact .inl h
          · exact .inr ⟨h1, a ++ b, h2, a, b, rfl, h3, h4⟩
        · rintro (h | ⟨h1, ps, h2, a, b, rfl, h3, h4⟩)
          · exact .inl h
          · exact .inr ⟨h1, a, b, h2, h3, h4⟩
      · simp only [hn, if_false]
    · simp only [h10, if_false]
theorem HoldU.sh {tg flex : Bool} {t : Tree} {b : List D} (h : HoldU tg flex t b) : shDs b = (if tg then [.mp] else []) ∧ pos b := by
  unfold HoldU at h
  cases tg with
  | false => simp at h; subst h; exact ⟨rfl, fun d hd => by cases hd⟩
  | true =>
    simp only [if_true] at h ⊢
    cases flex with
    | true => simp at h; subst h; exact ⟨by simp [shDs, tagsK, shD], fun d hd => by simp at hd; subst hd; simp [tagsK, D.width]⟩
    | false =>
      simp at h
      obtain ⟨d, rfl, hd⟩ := h
      refine ⟨by simp [shDs, hd], fun x hx => ?_⟩
      simp at hx; subst hx
      rw [← sh_width, hd]; simp
theorem HoldFs.sh {ver : Int} {tg flex : Bool} : ∀ {fs : List Fld} {i : Nat} {t : Tree} {ds : List D}, HoldFs ver tg flex fs i t ds → shDs ds = shFs tg fs ∧ pos ds
  | [], i, t, ds, h => by simp only [HoldFs] at h; subst h; exact ⟨rfl, fun d hd => by cases hd⟩
  | f :: fs, i, t, ds, h => by
    simp only [HoldFs] at h
    obtain ⟨a, b, rfl, h1, h2, _, h4⟩ := h
    obtain ⟨h5, h6⟩ := HoldFs.sh h4
    exact ⟨by simp only [shDs_append, shFs, h1, h5], pos_append h2 h6⟩
theorem HoldP.sh {ver : Int} {tg flex : Bool} {fs : List Fld} {t : Tree} {ds : List D} (h : HoldP ver tg flex fs t ds) : shDs ds = shP tg fs ∧ pos ds := by
  obtain ⟨a, b, rfl, h1, h2⟩ := h
  exact ⟨by rw [shDs_append, h1.sh.1, h2.sh.1]; rfl, pos_append h1.sh.2 h2.sh.2⟩
section
variable {E : List (List D)} {k off : Nat} {pre post : List D} {ver : Int} {flex : Bool}
theorem exV_okH (kind nul : Int) (t : Tree) (p : Tree → List UInt8) {d : D} (hd : HoldV ver kind nul t d) (hk : E[k]? = some (pre ++ d :: post)) (hp : pos pre) (hw : D.widths pre = off) (hfit : FitV kind t) (hnul : 0 ≤ nul → t.nul = true → nul ≤ ver) (h8 : kind = 8 → 0 ≤ nul → nul ≤ ver)
    (hk10 : kind ≠ 10) : semL E (exV kind nul ver flex k off) = some (wVal kind flex (t.nul && decide (0 ≤ nul) && decide (nul ≤ ver)) p t) := by
  unfold HoldV at hd
  split at hd
  · rename_i h
    obtain ⟨rfl, hnv⟩ := h
    obtain ⟨hag, _, n, hsl⟩ := hd
    have hM : Most = 32767 := rfl
    have hs := hfit (.inr rfl)
    have hwh := whole_of hs
    have e2 : exV 9 nul ver flex k off = [.call (if flex then .cbytes else .bytes) [.cel k off]] := by simp [exV, hnv]
    rw [e2, sem_call (arg_cel hk hp hw hag)]
    have hnull : (t.nul && decide (0 ≤ nul) && decide (nul ≤ ver)) = false := by
      cases hb : t.nul with
      | false => rfl
      | true =>
        cases h1 : decide (0 ≤ nul) with
        | false => rfl
        | true => exact absurd ⟨of_decide_eq_true h1, hnul (of_decide_eq_true h1) hb⟩ hnv
    rw [hnull]
    have hb2 := bytesOf_map t.s
    have hlen : t.s.length < 2147483648 := by omega
    cases flex <;> simp [semP, wVal, counted, hwh, hsl, hb2, hlen]
  · subst hd
    exact exV_ok kind nul t p hk hp hw hfit hnul h8 hk10
end
theorem exP_ofH {ver : Int} {tg flex : Bool} {fs : List Fld} {m k off : Nat} {t : Tree} {E : List (List D)} {pre post ds : List D} (htg : flex = true → tg = true) (hh : HoldP ver tg flex fs t ds)
    (hfs : ∀ a pre' post', HoldFs ver tg flex fs 0 t a → E[k]? = some (pre' ++ a ++ post') → pos pre' → D.widths pre' = off → semL E (exFs ver tg flex m k off fs) = some (wFs ver flex fs 0 t))
    (hk : E[k]? = some (pre ++ ds ++ post)) (hp : pos pre) (hw : D.widths pre = off) (hf : FitFs ver fs 0 t) (hu : FitU fs t) : semL E (exP ver tg flex m k off fs) = some (wPart ver flex fs t) := by
  obtain ⟨a, b, rfl, ha, hb⟩ := hh
  have h1 := hfs a pre (b ++ post) ha (by rw [hk]; simp [List.append_assoc]) hp hw
  unfold exP wPart
  rw [semL_append, h1]
  rw [allTagsK_eq hf hu]
  cases flex with
  | false => simp [semL, asm]
  | true =>
    have htg' := htg rfl
    subst htg'
    simp only [HoldU, if_true] at hb
    subst hb
    have h2 := exTags_ok (E := E) (k := k) (off := off + (shFs true fs).length) (pre := pre ++ a) (post := post) (u := t.u)
      (by rw [hk]; simp [List.append_assoc]) (by rw [widths_append, hw, ← shs_width, ha.sh.1]) hu.2
    simp only [if_true, h2, asm]
theorem semE_get {E : List (List D)} {sh : List Ck} {body : List Out} {α : Type} (b : α → List UInt8) : ∀ (l : List α) (els : List D), els.length = l.length → (∀ i (h : i < l.length), ∃ d, els[i]? = some d ∧ shD d = sh ∧ semL (E ++ [parts d]) body = some (b l[i])) → semE E sh body els = some (l.flatMap b)
  | [], [], _, _ => by simp [semE]
  | [], d :: els, h, _ => by simp at h
  | x :: l, [], h, _ => by simp at h
  | x :: l, d :: els, h, hall => by
    have h1 := hall 0 (by simp)
    simp only [List.getElem?_cons_zero, Option.some.injEq, List.getElem_cons_zero] at h1
    obtain ⟨_, rfl, h2, h3⟩ := h1
    have ih := semE_get b l els (by simpa using h) (fun i hi => by have := hall (i + 1) (by simpa using hi); simpa using this)
    simp only [semE, ih, h2, h3, if_true, List.flatMap_cons]
theorem att_get {t : Tree} {i : Nat} (h : i < t.l.length) : att t i = t.l[i] := by simp [att, List.getD_eq_getElem?_getD, h]
mutual
theorem exF_okH (ver : Int) (tg flex : Bool) (htg : flex = true → tg = true) : ∀ (f : Fld) (t : Tree) (E : List (List D)) (m k off : Nat) (pre post ds : List D), HoldF ver tg flex f t ds → E[k]? = some (pre ++ ds ++ post) → pos pre → D.widths pre = off → E.length = m → FitF ver f t → lateF ver f = true →
    semL E (exF ver tg flex m k off f) = some (wField ver flex f t)
  | .mk kind fr upto nul tag df of sub, t, E, m, k, off, pre, post, ds, hh, hk, hp, hw, hm, hfit, hlate => by
    have hM : Most = 32767 := rfl
    rw [HoldF_mk] at hh
    rw [exF_mk, wField_mk ver flex kind fr upto nul tag df of sub t _ rfl]
    simp only [FitF] at hfit
    obtain ⟨hnul, hfit⟩ := hfit
    obtain ⟨h8, hla, hlb⟩ := late_out hlate
    by_cases h11 : kind = 11
    · simp only [h11, if_true] at hh hfit ⊢
      obtain ⟨hlen, hst, hpr⟩ := hfit
      obtain ⟨d, rfl, hcase⟩ := hh
      have hsem : ∀ els : List D, els.length = t.l.length → (if of = 10 then ∀ i, i < t.l.length → ∃ ps, els[i]? = some (.agg ps) ∧ HoldP ver tg flex sub (att t i) ps else els = t.l.map (valK of (-1))) → semE E (shE tg of sub) (if of = 10 then exP ver tg flex (m + 1) m 0 sub else exV of (-1) ver flex m 0) els = some (t.l.flatMap (wVal of flex false (wPart ver flex sub))) := by
        intro els hel hels
        by_cases h10 : of = 10
        · simp only [h10, if_true] at hels ⊢
          rw [show wVal 10 flex false (wPart ver flex sub) = wPart ver flex sub from funext fun x => by simp [wVal]]
          refine semE_get (wPart ver flex sub) t.l els hel (fun i hi => ?_)
          obtain ⟨ps, h1, h2⟩ := hels i hi
          rw [att_get hi] at h2
          refine ⟨.agg ps, h1, by simp only [shD, h2.sh.1, shE, if_true], ?_⟩
          obtain ⟨hf, hu⟩ := hst h10 t.l[i] (List.getElem_mem hi)
          have hget : (E ++ [parts (D.agg ps)])[m]? = some ([] ++ ps ++ []) := by
            rw [← hm, List.getElem?_append_right (Nat.le_refl _), Nat.sub_self]; simp [parts]
          exact exP_ofH htg h2 (fun a pre' post' h0 h1 h2 h3 => exFs_okH ver tg flex htg sub 0 t.l[i] _ (m + 1) m 0 pre' post' a h0 h1 h2 h3 (by simp [hm]) hf (hla h11 h10)) hget (fun d hd => by cases hd) rfl hf hu
        · simp only [h10, if_false] at hels ⊢
          subst hels
          obtain ⟨⟨h11', h7⟩, hv⟩ := hpr h10
          refine semE_all (valK of (-1)) (wVal of flex false (wPart ver flex sub)) t.l (fun x hx => ⟨?_, ?_⟩)
          · rw [sh_valK]; simp [shE, h10]
          · have hget : (E ++ [parts (valK of (-1) x)])[m]? = some ([] ++ parts (valK of (-1) x)) := by
              rw [← hm, List.getElem?_append_right (Nat.le_refl _), Nat.sub_self]; simp
            have hpt : parts (valK of (-1) x) = [valK of (-1) x] := by
              unfold valK
              repeat' split
              all_goals first | rfl | (exfalso; omega)
            rw [hpt] at hget ⊢
            have := exV_ok (off := 0) (ver := ver) (flex := flex) of (-1) x (wPart ver flex sub) hget (fun d hd => by cases hd) rfl (hv x hx) (by omega) (by omega) h10
            simpa using this
      have hth := things_of hlen
      have hlt : t.l.length < 2147483648 := by omega
      have hk' : E[k]? = some (pre ++ d :: post) := by rw [hk]; simp
      have heach : ∀ (l : List D) (n : Bool), sliceOf d = some (n, l) → l.length < 2147483648 → ∀ ys, semE E (shE tg of sub) (if of = 10 then exP ver tg flex (m + 1) m 0 sub else exV of (-1) ver flex m 0) l = some ys →
          semO E (.each k off (shE tg of sub) (if of = 10 then exP ver tg flex (m + 1) m 0 sub else exV of (-1) ver flex m 0)) = some ys := by
        intro l n hs hl ys hys
        subst hw
        simp only [semO, hk', Option.bind_some, dAt_mid pre d post hp, hs, hl, if_true, hys]
      have two : ∀ (a b : Out) (x y : List UInt8), semO E a = some x → semO E b = some y → semL E [a, b] = some (x ++ y) := by
        intro a b x y h1 h2
        have := semL_append E [a] [b]
        rw [semL_one, semL_one, h1, h2] at this
        exact this
      rcases hcase with ⟨hn, hb, rfl⟩ | ⟨hnn, hag, _, n, els, hs, hi, hel, hels⟩
      · have hv := hnul hn hb
        simp only [hn, hv, and_self, if_true, hb, decide_true, Bool.and_self, List.flatMap_nil, List.length_nil, List.append_nil]
        have h1 : semO E (.call (if flex then .cnarr else .narr) [.len k off (shE tg of sub), .isn k off []]) = some (counted flex true 0 4) := by
          rw [sem_call2 (arg_len hk' hp hw rfl) (arg_isn hk' hp hw rfl)]
          cases flex <;> simp [semP, counted, uvar0]
        have := two _ _ _ _ h1 (heach [] true rfl (by simp) [] (by simp [semE]))
        rw [List.append_nil] at this
        exact this
      · have hnull : (t.nul && decide (0 ≤ nul) && decide (nul ≤ ver)) = false := by
          cases hb : t.nul with
          | false => rfl
          | true =>
            cases h1 : decide (0 ≤ nul) with
            | false => rfl
            | true => exact absurd ⟨of_decide_eq_true h1, hb⟩ hnn
        simp only [hnull, Bool.false_eq_true, if_false, hth]
        have h2 := heach els n hs (by omega) _ (hsem els hel hels)
        have hl := arg_len (sh := shE tg of sub) hk' hp hw hs
        have h1 : semO E (if 0 ≤ nul ∧ nul ≤ ver then Out.call (if flex then .cnarr else .narr) [.len k off (shE tg of sub), .isn k off []] else .call (if flex then .carr else .arr) [.len k off (shE tg of sub)]) = some (counted flex false t.l.length 4) := by
          by_cases hnv : 0 ≤ nul ∧ nul ≤ ver
          · rw [if_pos hnv, sem_call2 hl (arg_isn hk' hp hw (hi hnv.1 hnv.2)), hel]
            have hlt' : (t.l.length : Int) < 2147483648 := by omega
            cases flex <;> simp [semP, counted, hlt']
          · rw [if_neg hnv]
            have := sem_call (p := if flex then Pf.carr else Pf.arr) hl
            rw [semL_one] at this
            rw [this, hel]
            have hlt' : (t.l.length : Int) < 2147483648 := by omega
            cases flex <;> simp [semP, counted, hlt']
        exact two _ _ _ _ h1 h2
    · simp only [h11, if_false] at hh hfit ⊢
      by_cases h10 : kind = 10
      · simp only [h10, if_true] at hh hfit ⊢
        by_cases hn : 0 ≤ nul
        · simp only [hn, and_self, if_true, decide_true, Bool.and_true] at hh ⊢
          rw [semL_one]
          rcases hh with ⟨hb, rfl⟩ | ⟨hb, ps, rfl, hps⟩
          · have hv := hnul hn hb
            have hk' : E[k]? = some (pre ++ .lit (.pointer none) :: post) := by rw [hk]; simp
            subst hw
            simp only [semO, hk', Option.bind_some, dAt_mid pre _ post hp, hv, hb, decide_true, Bool.and_self, if_true]
            rw [semL_one]
            simp only [semO]
            rfl
          · have hk' : E[k]? = some (pre ++ .ptr (.agg ps) :: post) := by rw [hk]; simp
            subst hw
            have hget : (E ++ [parts (D.agg ps)])[m]? = some ([] ++ ps ++ []) := by
              rw [← hm, List.getElem?_append_right (Nat.le_refl _), Nat.sub_self]; simp [parts]
            have h1 := exP_ofH (ver := ver) (flex := flex) htg hps (fun a pre' post' h0 h1 h2 h3 => exFs_okH ver tg flex htg sub 0 t _ (m + 1) m 0 pre' post' a h0 h1 h2 h3 (by simp [hm]) hfit.1 (hlb h10)) hget (fun d hd => by cases hd) rfl hfit.1 hfit.2
            simp only [semO, hk', Option.bind_some, dAt_mid pre _ post hp, shD, hps.sh.1, if_true, hb, Bool.false_and, Bool.false_eq_true, if_false]
            have h2 := semL_append (E ++ [parts (D.agg ps)]) [.lit 1] (exP ver tg flex (m + 1) m 0 sub)
            rw [h1, semL_one] at h2
            simp only [semO, List.cons_append, List.nil_append] at h2
            rw [h2]; rfl
        · simp only [hn, if_false, and_false] at hh ⊢
          simp only [wVal]
          exact exP_ofH htg hh (fun a pre' post' h0 h1 h2 h3 => exFs_okH ver tg flex htg sub 0 t E m k off pre' post' a h0 h1 h2 h3 hm hfit.1 (hlb h10)) hk hp hw hfit.1 hfit.2
      · simp only [h10, if_false, false_and] at hh hfit ⊢
        obtain ⟨d, rfl, hd⟩ := hh
        have hk' : E[k]? = some (pre ++ d :: post) := by rw [hk]; simp
        exact exV_okH kind nul t _ hd hk' hp hw hfit hnul h8 h10
theorem exFs_okH (ver : Int) (tg flex : Bool) (htg : flex = true → tg = true) : ∀ (fs : List Fld) (i : Nat) (t : Tree) (E : List (List D)) (m k off : Nat) (pre post ds : List D), HoldFs ver tg flex fs i t ds → E[k]? = some (pre ++ ds ++ post) → pos pre → D.widths pre = off → E.length = m → FitFs ver fs i t → lateFs ver fs = true →
    semL E (exFs ver tg flex m k off fs) = some (wFs ver flex fs i t)
  | [], _, _, _, _, _, _, _, _, _, _, _, _, _, _, _, _ => by simp [exFs, wFs, semL]
  | f :: fs, i, t, E, m, k, off, pre, post, ds, hh, hk, hp, hw, hm, hfit, hlate => by
    simp only [FitFs] at hfit
    obtain ⟨htag, hff, hrest⟩ := hfit
    simp only [lateFs, Bool.and_eq_true, Bool.or_eq_true, Bool.not_eq_true'] at hlate
    have lh : f.has ver = true → lateF ver f = true := fun e => by
      rcases hlate.1 with h | h
      · rw [e] at h; cases h
      · exact h
    simp only [HoldFs] at hh
    obtain ⟨a, b, rfl, hsa, hpa, hha, hhb⟩ := hh
    have ih := exFs_okH ver tg flex htg fs (i + 1) t E m k (off + (shF tg f).length) (pre ++ a) post b hhb (by rw [hk]; simp [List.append_assoc]) (pos_append hp hpa) (by rw [widths_append, hw, ← shs_width, hsa]) hm hrest hlate.2
    simp only [exFs, wFs]
    rw [semL_append, ih]
    by_cases hx : f.has ver = true
    · have h1 := exF_okH ver tg flex htg f (att t i) E m k off pre (b ++ post) a (hha hx) (by rw [hk]; simp [List.append_assoc]) hp hw hm (hff hx) (lh hx)
      simp only [hx, if_true, h1, htag, true_and]
    · have hh' : f.has ver = false := by simpa using hx
      simp [hh', semL]
end
theorem exP_ok {ver : Int} {tg flex : Bool} (htg : flex = true → tg = true) {fs : List Fld} {m k off : Nat} {t : Tree} {E : List (List D)} {pre post ds : List D} (hh : HoldP ver tg flex fs t ds) (hk : E[k]? = some (pre ++ ds ++ post)) (hp : pos pre) (hw : D.widths pre = off) (hm : E.length = m) (hf : FitT ver fs t) (hlate : lateFs ver fs = true) : semL E (exP ver tg flex m k off fs) = some (wPart ver flex fs t) :=
  exP_ofH htg hh (fun a pre' post' h0 h1 h2 h3 => exFs_okH ver tg flex htg fs 0 t E m k off pre' post' a h0 h1 h2 h3 hm hf.1 hlate) hk hp hw hf.1 hf.2
end Go.Proofs.YtlmnaffhadeolaaGreatDoor

namespace Go.Proofs.YtlmnaffhadeolaaGreatDoor
open Go Go.RowKit
def rpV (kind nul ver : Int) (flex : Bool) : Rp :=
 if kind = 0 then .bool else if kind = 1 then .i8 else if kind = 2 then .i16 else if kind = 3 then .i32 else if kind = 5 then .u16 else if kind = 7 then .uuid
 else if kind = 8 then (if 0 ≤ nul then (if nul ≤ ver then (if flex then .cnstr else .nstr) else (if flex then .pcstr else .pstr)) else (if flex then .cstr else .str))
 else if kind = 9 then (if 0 ≤ nul ∧ nul ≤ ver then (if flex then .cnbytes else .nbytes) else (if flex then .cbytes else .bytes))
 else .i64
def Imp (a b : List D) : Prop := ∀ (ok : Nat → Prop) (w : World) (cs : List Value), Reps ok w a cs → Reps ok w b cs
theorem Imp.refl (a : List D) : Imp a a := fun _ _ _ h => h
theorem Imp.app {a b c d : List D} (h : Imp a b) (k : Imp c d) : Imp (a ++ c) (b ++ d) := by
 intro ok w cs hr
 obtain ⟨c1, c2, rfl, h1, h2⟩ := (Reps.app _ _ _).1 hr
 exact (Reps.app _ _ _).2 ⟨c1, c2, rfl, h ok w c1 h1, k ok w c2 h2⟩
theorem Imp.one {a b : D} (h : ∀ (ok : Nat → Prop) (w : World) (cs : List Value), Rep ok w a cs → Rep ok w b cs) : Imp [a] [b] := by
 intro ok w cs hr
 simp only [Reps] at hr ⊢
 obtain ⟨c1, c2, e, h1, h2⟩ := hr
 exact ⟨c1, c2, e, h ok w c1 h1, h2⟩
theorem rep_one {ok : Nat → Prop} {w : World} {d : D} {cs : List Value} : Reps ok w [d] cs ↔ Rep ok w d cs := by
 simp only [Reps]
 constructor
 ·rintro ⟨c1, c2, rfl, h, rfl⟩; simpa using h
 ·intro h; exact ⟨cs, [], by simp, h, rfl⟩
theorem imp_agg (ds : List D) : Imp ds [.agg ds] := by
 intro ok w cs hr
 rw [rep_one]; simpa only [Rep] using hr
theorem wrap_i16 (n : Int) : IntKind.i16.wrap n = (n + 32768) % 65536 - 32768 := by
 simp [IntKind.wrap, IntKind.bits, IntKind.signed]
 split <;> omega
theorem unbe_go : ∀ (k : Nat) (z : Int) (m : Nat), ((be k z).foldl (fun n c => n * 256 + c.toNat) m : Nat) = (m : Int) * (256 ^ k : Nat) + z % (256 ^ k : Nat)
 | 0, z, m => by simp [be]
 | k + 1, z, m => by
  simp only [be, List.foldl_cons]
  rw [unbe_go k z]
  have h1 := lowByte_nat (z / (2 ^ (8 * k) : Nat))
  have h2 : (2 ^ (8 * k) : Nat) = 256 ^ k := by rw [Nat.pow_mul]
  rw [h2] at h1 ⊢
  have h3 : ((m * 256 + (lowByte (z / (256 ^ k : Nat))).toNat : Nat) : Int) = m * 256 + (z / (256 ^ k : Nat)) % 256 := by
   rw [← h1]; simp only [Int.natCast_add, Int.natCast_mul]; rfl
  rw [h3]
  have hp : (0 : Int) < (256 ^ k : Nat) := by have : 0 < 256 ^ k := Nat.pow_pos (by omega); omega
  have h4 : ((256 ^ (k + 1) : Nat) : Int) = (256 ^ k : Nat) * 256 := by rw [Nat.pow_succ, Int.natCast_mul]; rfl
  rw [h4]
  generalize ((256 ^ k : Nat) : Int) = q at hp
  have e1 : z % (q * 256) = z % q + q * (z / q % 256) := by
   have a1 := Int.emod_def z (q * 256)
   have a2 := Int.emod_def z q
   have a3 := Int.emod_def (z / q) 256
   rw [Int.ediv_mul_of_nonneg (by omega)] at a1
   rw [a1, a2, a3, Int.mul_sub, Int.mul_assoc]
   omega
  rw [e1]
  generalize z / q % 256 = r
  rw [Int.add_mul, Int.mul_assoc, Int.mul_comm 256 q, Int.mul_comm r q]
  omega
theorem unbe_be (k : Nat) (z : Int) : (unbe (be k z) : Int) = z % (256 ^ k : Nat) := by
 have := unbe_go k z 0
 simp only [unbe]
 rw [this]; simp
theorem takeN_app (a s : List UInt8) (n : Nat) (h : a.length = n) : takeN n (a ++ s) = some (a, s) := by
 subst h
 simp [takeN]
theorem be_size : ∀ (k : Nat) (n : Int), (be k n).length = k
 | 0, _ => rfl
 | k + 1, n => by simp [be, be_size k n]
theorem intP_be (k : IntKind) (n m : Nat) (hk : k.bits = m) (h : 8 * n = m) (z : Int) (s : List UInt8) : intP k n (be n z ++ s) = some (k.wrap z, s) := by
 simp only [intP]
 rw [takeN_app _ _ _ (be_size n z)]
 simp only [Option.map_some]
 have e : k.wrap (unbe (be n z)) = k.wrap z := by
  rw [unbe_be]
  have h1 : (256 ^ n : Nat) = 2 ^ m := by rw [← h, Nat.pow_mul]
  rw [h1]
  subst hk
  cases k <;> simp only [IntKind.wrap, IntKind.bits, IntKind.signed] <;> simp <;> (try split) <;> omega
 rw [e]
theorem uvarR_cons (k : Nat) (c : UInt8) (r : List UInt8) : uvarR (k + 1) (c :: r) = if k = 0 then (if c.toNat ≤ 15 then some (c.toNat, r) else none)
   else if c.toNat < 128 then some (c.toNat, r)
   else match uvarR k r with
    | some (n, r') => some (c.toNat - 128 + 128 * n, r')
    | none => none := by rw [uvarR.eq_def]; rfl
theorem uvarR_uvar : ∀ (k n : Nat) (s : List UInt8), n < 16 * 128 ^ k → uvarR (k + 1) (uvar n ++ s) = some (n, s)
 | 0, n, s, h => by
  have : n < 128 := by simp at h; omega
  rw [uvar_lt this]
  have e : (UInt8.ofNat n).toNat = n := by simp [UInt8.toNat_ofNat']; omega
  rw [List.cons_append, uvarR_cons]
  simp only [List.nil_append, if_true, e]
  rw [if_pos (by simp at h; omega)]
 | k + 1, n, s, h => by
  by_cases hn : n < 128
  ·rw [uvar_lt hn]
   have e : (UInt8.ofNat n).toNat = n := by simp [UInt8.toNat_ofNat']; omega
   rw [List.cons_append, uvarR_cons]
   simp only [List.nil_append, e]
   rw [if_neg (by omega), if_pos hn]
  ·rw [uvar_ge (by omega)]
   have e : (UInt8.ofNat (n % 128 + 128)).toNat = n % 128 + 128 := by simp [UInt8.toNat_ofNat']; omega
   have ih := uvarR_uvar k (n / 128) s (by rw [Nat.pow_succ] at h; omega)
   rw [List.cons_append, uvarR_cons]
   simp only [e]
   rw [if_neg (by omega), if_neg (by omega), ih]
   simp only [Option.some.injEq, Prod.mk.injEq, and_true]
   omega
theorem uvarP_uvar (n : Nat) (s : List UInt8) (h : n < 4294967296) : uvarP (uvar n ++ s) = some (n, s) := uvarR_uvar 4 n s (by omega)
theorem spanP_app (a s : List UInt8) (l : Int) (h : l = a.length) : spanP l (a ++ s) = some (a, s) := by
 subst h
 simp only [spanP]
 rw [if_neg (by omega), Int.toNat_natCast, takeN_app _ _ _ rfl]
theorem rdP_ok (kind nul ver : Int) (flex : Bool) (t : Tree) (p : Tree → List UInt8) (s : List UInt8) (hfit : FitV kind t) (hnul : 0 ≤ nul → t.nul = true → nul ≤ ver) (hk10 : kind ≠ 10) :
  ∃ nd d, rdP (rpV kind nul ver flex) (wVal kind flex (t.nul && decide (0 ≤ nul) && decide (nul ≤ ver)) p t ++ s) = some (nd, s) ∧ shDs nd = shV kind nul ∧ unit nd ∧ HoldV ver kind nul t d ∧ Imp nd [d] ∧ (kind ≠ 7 → nd = [d]) := by
 have hM : Most = 32767 := rfl
 have lit : ∀ v : Value, unit [.lit v] := fun v d hd => by simp at hd; subst hd; rfl
 have one : ∀ d : D, d.width = 1 → unit [d] := fun d h x hx => by simp at hx; subst hx; exact h
 have hv : kind ≠ 9 → HoldV ver kind nul t (valK kind nul t) := fun h => by unfold HoldV; rw [if_neg (fun e => h e.1)]
 have sh1 : shDs [valK kind nul t] = shV kind nul := by simp only [shDs, List.append_nil, sh_valK]
 by_cases h0 : kind = 0
 ·subst h0
  have e : valK 0 nul t = .lit (.bool (decide (t.n % 2 = 1))) := by simp [valK]
  refine ⟨[valK 0 nul t], _, ?_, sh1, by rw [e]; exact lit _, hv (by omega), Imp.refl _, fun _ => rfl⟩
  have h2 : t.n % 2 = 0 ∨ t.n % 2 = 1 := by omega
  simp only [rpV, wVal, if_true, List.cons_append, List.nil_append, rdP, e]
  rcases h2 with h2 | h2 <;> rw [h2] <;> rfl
 by_cases h1 : kind = 1
 ·subst h1
  have e : valK 1 nul t = .lit (.int .i8 (IntKind.i8.wrap t.n)) := by simp [valK]
  have e2 : wVal 1 flex (t.nul && decide (0 ≤ nul) && decide (nul ≤ ver)) p t = be 1 t.n := by simp [wVal, width]
  refine ⟨[valK 1 nul t], _, ?_, sh1, by rw [e]; exact lit _, hv (by omega), Imp.refl _, fun _ => rfl⟩
  rw [e2, show rpV 1 nul ver flex = .i8 from rfl, rdP, intP_be .i8 1 8 rfl rfl, e]; rfl
 by_cases h2 : kind = 2
 ·subst h2
  have e : valK 2 nul t = .lit (.int .i16 (IntKind.i16.wrap t.n)) := by simp [valK]
  have e2 : wVal 2 flex (t.nul && decide (0 ≤ nul) && decide (nul ≤ ver)) p t = be 2 t.n := by simp [wVal, width]
  refine ⟨[valK 2 nul t], _, ?_, sh1, by rw [e]; exact lit _, hv (by omega), Imp.refl _, fun _ => rfl⟩
  rw [e2, show rpV 2 nul ver flex = .i16 from rfl, rdP, intP_be .i16 2 16 rfl rfl, e]; rfl
 by_cases h3 : kind = 3
 ·subst h3
  have e : valK 3 nul t = .lit (.int .i32 (IntKind.i32.wrap t.n)) := by simp [valK]
  have e2 : wVal 3 flex (t.nul && decide (0 ≤ nul) && decide (nul ≤ ver)) p t = be 4 t.n := by simp [wVal, width]
  refine ⟨[valK 3 nul t], _, ?_, sh1, by rw [e]; exact lit _, hv (by omega), Imp.refl _, fun _ => rfl⟩
  rw [e2, show rpV 3 nul ver flex = .i32 from rfl, rdP, intP_be .i32 4 32 rfl rfl, e]; rfl
 by_cases h5 : kind = 5
 ·subst h5
  have e : valK 5 nul t = .lit (.int .u16 (IntKind.u16.wrap t.n)) := by simp [valK]
  have e2 : wVal 5 flex (t.nul && decide (0 ≤ nul) && decide (nul ≤ ver)) p t = be 2 t.n := by simp [wVal, width]
  refine ⟨[valK 5 nul t], _, ?_, sh1, by rw [e]; exact lit _, hv (by omega), Imp.refl _, fun _ => rfl⟩
  rw [e2, show rpV 5 nul ver flex = .u16 from rfl, rdP, intP_be .u16 2 16 rfl rfl, e]; rfl
 by_cases h7 : kind = 7
 ·subst h7
  have e : valK 7 nul t = .agg ((sixteen t.s).map byteD) := by simp [valK]
  have e2 : wVal 7 flex (t.nul && decide (0 ≤ nul) && decide (nul ≤ ver)) p t = sixteen t.s := by simp [wVal]
  refine ⟨(sixteen t.s).map byteD, _, ?_, ?_, ?_, hv (by omega), by rw [e]; exact imp_agg _, fun h => absurd rfl h⟩
  ·rw [e2, show rpV 7 nul ver flex = .uuid from rfl, rdP, takeN_app _ _ _ (sixteen_len _)]; rfl
  ·rw [shDs_bytes, sixteen_len]; rfl
  ·intro d hd
   simp only [List.mem_map] at hd
   obtain ⟨c, _, rfl⟩ := hd
   rfl
 by_cases hk8 : kind = 8
 ·subst hk8
  have hs := hfit (.inl rfl)
  have hwh := whole_of hs
  refine ⟨[valK 8 nul t], _, ?_, sh1, ?_, hv (by omega), Imp.refl _, fun _ => rfl⟩
  ·by_cases hn : 0 ≤ nul
   ·by_cases hvv : nul ≤ ver
    case neg =>
     have hb : t.nul = false := by
      cases hb : t.nul with
      | false => rfl
      | true => exact absurd (hnul hn hb) hvv
     have er : rpV 8 nul ver flex = (if flex then .pcstr else .pstr) := by simp [rpV, hn, hvv]
     have e : valK 8 nul t = .ptr (.lit (strV t.s)) := by simp [valK, hn, hb]
     rw [e, er]
     cases flex
     ·simp only [wVal, counted]
      simp [rdP, hwh, hb]
      rw [intP_be .i16 2 16 rfl rfl]
      have hw : IntKind.i16.wrap (t.s.length : Int) = t.s.length := by rw [wrap_i16]; omega
      simp only [Option.bind_some, hw]
      rw [spanP_app _ _ _ rfl]; rfl
     ·simp only [wVal, counted]
      simp [rdP, hwh, hb]
      rw [uvarP_uvar _ _ (by omega)]
      simp only [Option.bind_some]
      rw [spanP_app _ _ _ (by omega)]; rfl
    have er : rpV 8 nul ver flex = (if flex then .cnstr else .nstr) := by simp [rpV, hn, hvv]
    rw [er]
    cases hb : t.nul with
    | true =>
     have e : valK 8 nul t = .lit (.pointer none) := by simp [valK, hn, hb]
     rw [e]
     cases flex
     ·simp only [wVal, counted, hn, hvv]
      simp [rdP]
      rw [intP_be .i16 2 16 rfl rfl]
      simp [wrap_i16]
     ·simp only [wVal, counted, hn, hvv]
      have : uvarP (0 :: s) = some (0, s) := by have := uvarP_uvar 0 s (by omega); rw [uvar0] at this; exact this
      simp [rdP, this]
    | false =>
     have e : valK 8 nul t = .ptr (.lit (strV t.s)) := by simp [valK, hn, hb]
     rw [e]
     cases flex
     ·simp only [wVal, counted]
      simp [rdP, hwh]
      rw [intP_be .i16 2 16 rfl rfl]
      have hw : IntKind.i16.wrap (t.s.length : Int) = t.s.length := by rw [wrap_i16]; omega
      simp only [Option.bind_some, hw]
      rw [if_neg (by omega), spanP_app _ _ _ rfl]; rfl
     ·simp only [wVal, counted]
      simp [rdP, hwh]
      rw [uvarP_uvar _ _ (by omega)]
      simp only [Option.bind_some]
      rw [if_neg (by omega), spanP_app _ _ _ (by omega)]; rfl
   ·have e : valK 8 nul t = .lit (strV t.s) := by simp [valK, hn]
    have er : rpV 8 nul ver flex = (if flex then .cstr else .str) := by simp [rpV, hn]
    rw [e, er]
    cases flex
    ·simp only [wVal, counted]
     simp [rdP, hwh, hn]
     rw [intP_be .i16 2 16 rfl rfl]
     have hw : IntKind.i16.wrap (t.s.length : Int) = t.s.length := by rw [wrap_i16]; omega
     simp only [Option.bind_some, hw]
     rw [spanP_app _ _ _ rfl]; rfl
    ·simp only [wVal, counted]
     simp [rdP, hwh, hn]
     rw [uvarP_uvar _ _ (by omega)]
     simp only [Option.bind_some]
     rw [spanP_app _ _ _ (by omega)]; rfl
  ·have : shDs [valK 8 nul t] = shV 8 nul := sh1
   refine one _ ?_
   rw [← sh_width, sh_valK]
   unfold shV
   split <;> first | rfl | skip
   repeat' split
   all_goals first | rfl | (exfalso; omega)
 by_cases hk9 : kind = 9
 ·subst hk9
  have hs := hfit (.inr rfl)
  have hwh := whole_of hs
  by_cases hnv : 0 ≤ nul ∧ nul ≤ ver
  ·have er : rpV 9 nul ver flex = (if flex then .cnbytes else .nbytes) := by simp [rpV, hnv.1, hnv.2]
   refine ⟨[valK 9 nul t], _, ?_, sh1, ?_, ?_, Imp.refl _, fun _ => rfl⟩
   ·rw [er]
    cases hb : t.nul with
    | true =>
     have e : valK 9 nul t = .sl true [] := by simp [valK, hnv.1, hb]
     rw [e]
     cases flex
     ·simp only [wVal, counted, hnv.1, hnv.2]
      simp [rdP]
      rw [intP_be .i32 4 32 rfl rfl]
      simp [IntKind.wrap_i32]
     ·simp only [wVal, counted, hnv.1, hnv.2]
      have : uvarP (0 :: s) = some (0, s) := by have := uvarP_uvar 0 s (by omega); rw [uvar0] at this; exact this
      simp [rdP, this]
    | false =>
     have e : valK 9 nul t = .sl false (t.s.map byteD) := by simp [valK, hnv.1, hb]
     rw [e]
     cases flex
     ·simp only [wVal, counted]
      simp [rdP, hwh]
      rw [intP_be .i32 4 32 rfl rfl]
      have hw : IntKind.i32.wrap (t.s.length : Int) = t.s.length := by rw [IntKind.wrap_i32]; omega
      simp only [Option.bind_some, hw]
      rw [if_neg (by omega), spanP_app _ _ _ rfl]; rfl
     ·simp only [wVal, counted]
      simp [rdP, hwh]
      rw [uvarP_uvar _ _ (by omega)]
      simp only [Option.bind_some]
      rw [if_neg (by omega), spanP_app _ _ _ (by omega)]; rfl
   ·refine one _ ?_
    rw [← sh_width, sh_valK]; simp [shV]
   ·unfold HoldV; rw [if_neg (fun e => e.2 hnv)]
  ·have er : rpV 9 nul ver flex = (if flex then .cbytes else .bytes) := by simp [rpV, hnv]
   have hnull : (t.nul && decide (0 ≤ nul) && decide (nul ≤ ver)) = false := by
    cases hb : t.nul with
    | false => rfl
    | true =>
     cases h1 : decide (0 ≤ nul) with
     | false => rfl
     | true => exact absurd ⟨of_decide_eq_true h1, hnul (of_decide_eq_true h1) hb⟩ hnv
   refine ⟨[.sl false (t.s.map byteD)], .sl false (t.s.map byteD), ?_, by simp [shDs, shD, shV], one _ rfl, ?_, Imp.refl _, fun _ => rfl⟩
   ·rw [er, hnull]
    cases flex
    ·simp only [wVal, counted]
     simp [rdP, hwh]
     rw [intP_be .i32 4 32 rfl rfl]
     have hw : IntKind.i32.wrap (t.s.length : Int) = t.s.length := by rw [IntKind.wrap_i32]; omega
     simp only [Option.bind_some, hw]
     rw [if_neg (by omega), spanP_app _ _ _ rfl]; rfl
    ·simp only [wVal, counted]
     simp [rdP, hwh]
     rw [uvarP_uvar _ _ (by omega)]
     simp only [Option.bind_some]
     rw [if_neg (by omega), spanP_app _ _ _ (by omega)]; rfl
   ·unfold HoldV
    rw [if_pos ⟨rfl, hnv⟩]
    exact ⟨rfl, rfl, false, rfl⟩
 ·have e : valK kind nul t = .lit (.int .i64 (IntKind.i64.wrap t.n)) := by simp [valK, h0, h1, h2, h3, h5, h7, hk8, hk9]
  have hwd : width kind = 8 := by simp [width, h1, h2, h3, h5]
  have e2 : wVal kind flex (t.nul && decide (0 ≤ nul) && decide (nul ≤ ver)) p t = be 8 t.n := by simp [wVal, h0, h7, hk8, hk9, hk10, hwd]
  have er : rpV kind nul ver flex = .i64 := by simp [rpV, h0, h1, h2, h3, h5, h7, hk8, hk9]
  refine ⟨[valK kind nul t], _, ?_, sh1, by rw [e]; exact lit _, hv hk9, Imp.refl _, fun _ => rfl⟩
  rw [e2, er, rdP, intP_be .i64 8 64 rfl rfl, e]; rfl
end Go.Proofs.YtlmnaffhadeolaaGreatDoor

namespace Go.Proofs.YtlmnaffhadeolaaGreatDoor
open Go Go.RowKit
def Rising (u : List (Nat × List UInt8)) : Prop := u.Pairwise fun a b => a.1 < b.1
theorem putTag_rising (k : Nat) (v : List UInt8) : ∀ (u : List (Nat × List UInt8)), Rising u → Rising (putTag k v u) ∧ ∀ n, (∀ kv ∈ u, n < kv.1) → n < k → ∀ kv ∈ putTag k v u, n < kv.1
 | [], _ => ⟨by simp [putTag, Rising], fun n _ hk kv h => by simp [putTag] at h; subst h; exact hk⟩
 | x :: u, h => by
  have hx := List.pairwise_cons.1 h
  obtain ⟨i1, i2⟩ := putTag_rising k v u hx.2
  simp only [putTag]
  split
  ·rename_i hlt
   refine ⟨List.pairwise_cons.2 ⟨fun y hy => i2 x.1 (fun z hz => hx.1 z hz) hlt y hy, i1⟩, fun n hn hk kv hkv => ?_⟩
   rcases List.mem_cons.1 hkv with rfl | hm
   ·exact hn _ (by simp)
   ·exact i2 n (fun z hz => hn z (by simp [hz])) hk kv hm
  ·split
   ·exact ⟨h, fun n hn _ => hn⟩
   ·rename_i h1 h2
    refine ⟨List.pairwise_cons.2 ⟨fun y hy => ?_, h⟩, fun n hn hk kv hkv => ?_⟩
    ·rcases List.mem_cons.1 hy with rfl | hm
     ·show k < _; omega
     ·have := hx.1 y hm; show k < _; omega
    ·rcases List.mem_cons.1 hkv with rfl | hm
     ·exact hk
     ·exact hn kv hm
theorem unknown_rising (fs : List Fld) (u : List (Nat × List UInt8)) : Rising (unknown fs u) := by
 unfold unknown
 have : ∀ (l : List (Nat × List UInt8)) (out : List (Nat × List UInt8)), Rising out → Rising (l.foldl (fun out kv => if kv.1 < known fs then out else putTag kv.1 kv.2 out) out) := by
  intro l
  induction l with
  | nil => intro out h; exact h
  | cons x l ih =>
   intro out h
   simp only [List.foldl_cons]
   split
   ·exact ih out h
   ·exact ih _ (putTag_rising x.1 x.2 out h).1
 exact this _ [] (by simp [Rising])
theorem setTag_end (k : Nat) (v : List UInt8) : ∀ (u : List (Nat × List UInt8)), (∀ kv ∈ u, kv.1 < k) → setTag k v u = u ++ [(k, v)]
 | [], _ => rfl
 | x :: u, h => by
  have := h x (by simp)
  simp only [setTag, if_pos this, setTag_end k v u (fun y hy => h y (by simp [hy])), List.cons_append]
theorem tagsR_ok : ∀ (u acc : List (Nat × List UInt8)) (s : List UInt8), Rising (acc ++ u) → (∀ kv ∈ u, kv.1 < 4294967296 ∧ kv.2.length ≤ Most) → tagsR u.length acc ((u.flatMap fun kv => wTag kv.1 kv.2) ++ s) = some (acc ++ u, s)
 | [], acc, s, _, _ => by simp [tagsR]
 | x :: u, acc, s, hr, hb => by
  have hx := hb x (by simp)
  have hM : Most = 32767 := rfl
  have hlast : ∀ kv ∈ acc, kv.1 < x.1 := by
   intro kv hkv
   exact (List.pairwise_append.1 hr).2.2 kv hkv x (by simp)
  simp only [List.length_cons, tagsR, List.flatMap_cons, wTag, List.append_assoc]
  rw [uvarP_uvar _ _ hx.1]
  simp only [Option.bind_some]
  rw [uvarP_uvar _ _ (by omega)]
  simp only [Option.bind_some]
  rw [takeN_app _ _ _ rfl]
  simp only [Option.bind_some]
  rw [setTag_end _ _ _ hlast]
  have ih := tagsR_ok u (acc ++ [x]) s (by simpa [List.append_assoc] using hr) (fun kv h => hb kv (by simp [h]))
  simp only [wTag, List.append_assoc] at ih
  rw [ih]
  simp
theorem tagsP_ok (u : List (Nat × List UInt8)) (s : List UInt8) (hr : Rising u) (hb : ∀ kv ∈ u, kv.1 < 4294967296 ∧ kv.2.length ≤ Most) (hl : u.length ≤ Most) : tagsP (uvar u.length ++ (u.flatMap fun kv => wTag kv.1 kv.2) ++ s) = some (u, s) := by
 have hM : Most = 32767 := rfl
 simp only [tagsP, List.append_assoc]
 rw [uvarP_uvar _ _ (by omega)]
 simp only [Option.bind_some]
 have := tagsR_ok u [] s (by simpa using hr) hb
 simpa using this
theorem lenP_ok (flex null : Bool) (n : Nat) (s : List UInt8) (hn : n ≤ Most) (hs : null = true ∨ n ≤ s.length) : lenP flex (counted flex null n 4 ++ s) = some (if null then -1 else (n : Int), s) := by
 have hM : Most = 32767 := rfl
 cases null with
 | true =>
  cases flex
  ·simp only [lenP, counted, Bool.false_eq_true, if_false, if_true]
   rw [intP_be .i32 4 32 rfl rfl]
   simp [IntKind.wrap_i32]
  ·have : uvarP (0 :: s) = some (0, s) := by have := uvarP_uvar 0 s (by omega); rw [uvar0] at this; exact this
   simp [lenP, counted, this, IntKind.wrap_i32]
 | false =>
  have hs' : n ≤ s.length := by rcases hs with h | h; cases h; exact h
  cases flex
  ·simp only [lenP, counted, Bool.false_eq_true, if_false]
   rw [intP_be .i32 4 32 rfl rfl]
   have hw : IntKind.i32.wrap (n : Int) = n := by rw [IntKind.wrap_i32]; omega
   simp only [Option.bind_some, hw]
   rw [if_neg (by omega)]
  ·simp only [lenP, counted, Bool.false_eq_true, if_false, if_true]
   rw [uvarP_uvar _ _ (by omega)]
   have hw : IntKind.i32.wrap (IntKind.i32.wrap ((n + 1 : Nat) : Int) - 1) = n := by simp only [IntKind.wrap_i32]; omega
   simp only [Option.map_some, Option.bind_some, hw]
   rw [if_neg (by omega)]
theorem rdRow_ok {α : Type} (body : List Ra) (dfl : List D) (b : α → List UInt8) (Q : α → List D → Prop) : ∀ (l : List α), (∀ x ∈ l, ∀ s, ∃ nd, rdAs body dfl (b x ++ s) = some (nd, s) ∧ Q x nd) → ∀ s, ∃ dss, rdRow body dfl l.length (l.flatMap b ++ s) = some (dss, s) ∧ dss.length = l.length ∧ ∀ i (h : i < l.length), ∃ nd, dss[i]? = some nd ∧ Q l[i] nd
 | [], _, s => ⟨[], by simp [rdRow], rfl, fun i h => by cases h⟩
 | x :: l, h, s => by
  obtain ⟨nd, h1, h2⟩ := h x (by simp) (l.flatMap b ++ s)
  obtain ⟨dss, h3, h4, h5⟩ := rdRow_ok body dfl b Q l (fun y hy => h y (by simp [hy])) s
  refine ⟨nd :: dss, ?_, by simp [h4], fun i hi => ?_⟩
  ·simp only [List.length_cons, List.flatMap_cons, List.append_assoc, rdRow]
   rw [h1]
   simp only [Option.bind_some]
   rw [h3]; rfl
  ·cases i with
   | zero => exact ⟨nd, rfl, h2⟩
   | succ i => obtain ⟨nd', h6, h7⟩ := h5 i (by simpa using hi); exact ⟨nd', by simpa using h6, by simpa using h7⟩
theorem imp_list : ∀ {a b : List D}, a.length = b.length → (∀ (i : Nat) (x y : D), a[i]? = some x → b[i]? = some y → Imp [x] [y]) → Imp a b
 | [], [], _, _ => Imp.refl _
 | [], y :: b, h, _ => by simp at h
 | x :: a, [], h, _ => by simp at h
 | x :: a, y :: b, h, k => by
  have h1 := k 0 x y rfl rfl
  have h2 := imp_list (a := a) (b := b) (by simpa using h) (fun i u v hu hv => k (i + 1) u v (by simpa using hu) (by simpa using hv))
  exact Imp.app h1 h2
theorem imp_sl {n : Bool} {a b : List D} (hl : a.length = b.length) (h : Imp a b) : Imp [.sl n a] [.sl n b] := by
 refine Imp.one (fun ok w cs hr => ?_)
 simp only [Rep] at hr ⊢
 obtain ⟨p, c, e, hle, h1, h2⟩ := hr
 refine ⟨p, c, by rw [← hl]; exact e, by rw [← hl]; exact hle, fun hn => ?_, fun hn => ?_⟩
 ·obtain ⟨k1, k2, k3⟩ := h1 hn
  subst k2
  refine ⟨k1, ?_, k3⟩
  cases b with
  | nil => rfl
  | cons x b => simp at hl
 ·obtain ⟨b', off, cs', k1, k2, k3, k4⟩ := h2 hn
  exact ⟨b', off, cs', k1, k2, k3, h ok w cs' k4⟩
theorem imp_slsq {n : Bool} {a b : List D} (hl : a.length = b.length) (h : Imp a b) : Imp [.sl n a] [.sq b] := by
 refine Imp.one (fun ok w cs hr => ?_)
 simp only [Rep] at hr ⊢
 obtain ⟨p, c, e, hle, h1, h2⟩ := hr
 refine ⟨p, c, by rw [← hl]; exact e, by rw [← hl]; exact hle, ?_⟩
 cases n with
 | true =>
  left
  have h3 := (h1 rfl).2.1
  subst h3
  cases b with
  | nil => rfl
  | cons x b => simp at hl
 | false =>
  right
  obtain ⟨b', off, cs', k1, k2, k3, k4⟩ := h2 rfl
  exact ⟨b', off, cs', k1, k2, k3, h ok w cs' k4⟩
def rpN : Rp → Nat
 | .bool => 0 | .i8 => 1 | .i16 => 2 | .i32 => 3 | .i64 => 4 | .u16 => 5 | .uuid => 6 | .str => 7 | .cstr => 8 | .nstr => 9 | .cnstr => 10 | .bytes => 11 | .cbytes => 12 | .nbytes => 13 | .cnbytes => 14 | .pstr => 15 | .pcstr => 16
def rpEq (a b : Rp) : Bool := Nat.beq (rpN a) (rpN b)
theorem rpEq_out {a b : Rp} (h : rpEq a b = true) : a = b := by
 have := beq_out h
 cases a <;> cases b <;> first | rfl | cases this
def ne1 (ver : Int) (fs : List Fld) : Bool := fs.any fun f => f.has ver && decide (f.tag < 0) && !decide (f.kind = 10)
def endR (flex : Bool) (off : Nat) (ra : List Ra) : Option (List Ra) := if flex then (match ra with
 | .tags o :: r => bif Nat.beq o off then some r else none
 | _ => none) else some ra
def isEnd (flex : Bool) (off : Nat) (ra : List Ra) : Bool := match endR flex off ra with
 | some [] => true
 | _ => false
def endsO (flex : Bool) (off : Nat) : Option (List Ra) → Bool
 | some r => isEnd flex off r
 | none => false
def isPrim (p : Rp) : List Ra → Bool
 | [.prim q 0] => rpEq q p
 | _ => false
mutual
def mF (ver : Int) (tg flex : Bool) (off : Nat) : Fld → List Ra → Option (List Ra)
 | .mk kind _ _ nul _ _ of sub, ra =>
  if kind = 11 then (match ra with
   | .row c nb o st dfl body :: r =>
    bif (c == flex) && (nb == decide (0 ≤ nul ∧ nul ≤ ver)) && Nat.beq o off && (st == decide (of = 10)) && decide (shDs (litsD dfl) = shE tg of sub) &&
     (if of = 10 then (flex || ne1 ver sub) && endsO flex (shFs tg sub).length (mFs ver tg flex 0 sub body) else isPrim (rpV of (-1) ver flex) body) then some r else none
   | _ => none)
  else if kind = 10 then (if 0 ≤ nul then none else match mFs ver tg flex off sub ra with | some r => endR flex (off + (shFs tg sub).length) r | none => none)
  else (match ra with
   | .prim p o :: r => bif rpEq p (rpV kind nul ver flex) && Nat.beq o off then some r else none
   | _ => none)
def mFs (ver : Int) (tg flex : Bool) (off : Nat) : List Fld → List Ra → Option (List Ra)
 | [], ra => some ra
 | f :: fs, ra => match (if f.has ver then mF ver tg flex off f ra else some ra) with
  | some r => mFs ver tg flex (off + (shF tg f).length) fs r
  | none => none
end
def mP (ver : Int) (tg flex : Bool) (off : Nat) (fs : List Fld) (ra : List Ra) : Option (List Ra) := match mFs ver tg flex off fs ra with
 | some r => endR flex (off + (shFs tg fs).length) r
 | none => none
theorem unit_split : ∀ {ds : List D} {x y : List Ck}, unit ds → shDs ds = x ++ y → ∃ a b, ds = a ++ b ∧ shDs a = x ∧ shDs b = y ∧ unit a ∧ unit b := by
 intro ds x y hu h
 have hl := unit_len hu
 have hlen : x.length ≤ ds.length := by rw [← hl, h]; simp
 refine ⟨ds.take x.length, ds.drop x.length, (List.take_append_drop _ _).symm, ?_, ?_, fun d hd => hu d (List.mem_of_mem_take hd), fun d hd => hu d (List.mem_of_mem_drop hd)⟩
 ·have h1 : shDs ds = shDs (ds.take x.length) ++ shDs (ds.drop x.length) := by rw [← shDs_append, List.take_append_drop]
  have h2 : (shDs (ds.take x.length)).length = x.length := by rw [unit_len (fun d hd => hu d (List.mem_of_mem_take hd))]; simp; omega
  rw [h] at h1
  exact (List.append_inj h1 h2.symm).1.symm
 ·have h1 : shDs ds = shDs (ds.take x.length) ++ shDs (ds.drop x.length) := by rw [← shDs_append, List.take_append_drop]
  have h2 : (shDs (ds.take x.length)).length = x.length := by rw [unit_len (fun d hd => hu d (List.mem_of_mem_take hd))]; simp; omega
  rw [h] at h1
  exact (List.append_inj h1 h2.symm).2.symm
theorem unit_app {a b : List D} (ha : unit a) (hb : unit b) : unit (a ++ b) := fun d hd => (List.mem_append.1 hd).elim (ha d) (hb d)
theorem uvar_pos1 (n : Nat) : 1 ≤ (uvar n).length := by rw [uvar]; split <;> simp
theorem counted_pos (flex null : Bool) (n k : Nat) (hk : 0 < k) : 1 ≤ (counted flex null n k).length := by
 unfold counted
 cases flex <;> cases null <;> simp [be_size] <;> first | omega | skip
 exact uvar_pos1 _
theorem wVal_pos (kind : Int) (flex null : Bool) (p : Tree → List UInt8) (t : Tree) (h : kind ≠ 10) : 1 ≤ (wVal kind flex null p t).length := by
 unfold wVal
 split
 ·simp
 split
 ·rw [sixteen_len]; omega
 split
 ·have := counted_pos flex null (if null then [] else whole t.s).length 2 (by omega)
  rw [List.length_append]; omega
 split
 ·have := counted_pos flex null (if null then [] else whole t.s).length 4 (by omega)
  rw [List.length_append]; omega
 rw [be_size]
 unfold width
 repeat' split
 all_goals omega
theorem wField_pos (ver : Int) (flex : Bool) (f : Fld) (t : Tree) (h : f.kind ≠ 10) : 1 ≤ (wField ver flex f t).length := by
 cases f with
 | mk kind fr upto nul tag df of sub =>
  have hk : kind ≠ 10 := h
  rw [wField_mk ver flex kind fr upto nul tag df of sub t _ rfl]
  split
  ·rw [List.length_append]
   have := counted_pos flex (t.nul && decide (0 ≤ nul) && decide (nul ≤ ver)) (if (t.nul && decide (0 ≤ nul) && decide (nul ≤ ver)) then [] else things t.l).length 4 (by omega)
   omega
  ·rw [if_neg (fun e => hk e.1)]
   exact wVal_pos _ _ _ _ _ hk
theorem wFs_pos (ver : Int) (flex : Bool) : ∀ (fs : List Fld) (i : Nat) (t : Tree), ne1 ver fs = true → 1 ≤ (wFs ver flex fs i t).length
 | [], _, _, h => by simp [ne1] at h
 | f :: fs, i, t, h => by
  simp only [ne1, List.any_cons, Bool.or_eq_true] at h
  simp only [wFs, List.length_append]
  rcases h with h | h
  ·simp only [Bool.and_eq_true, decide_eq_true_eq, Bool.not_eq_true', decide_eq_false_iff_not] at h
   rw [if_pos ⟨h.1.2, h.1.1⟩]
   have := wField_pos ver flex f (att t i) h.2
   omega
  ·have := wFs_pos ver flex fs (i + 1) t h
   omega
theorem wPart_pos (ver : Int) (flex : Bool) (fs : List Fld) (t : Tree) (h : (flex || ne1 ver fs) = true) : 1 ≤ (wPart ver flex fs t).length := by
 unfold wPart asm
 cases flex with
 | true =>
  simp only [if_true, List.length_append]
  have := uvar_pos1 (allTags ver true fs t).length
  omega
 | false =>
  simp only [Bool.false_eq_true, if_false]
  exact wFs_pos ver false fs 0 t (by simpa using h)
theorem flatMap_len {α : Type} (b : α → List UInt8) : ∀ (l : List α), (∀ x ∈ l, 1 ≤ (b x).length) → l.length ≤ (l.flatMap b).length
 | [], _ => Nat.le_refl _
 | x :: l, h => by
  have h1 := h x (by simp)
  have h2 := flatMap_len b l (fun y hy => h y (by simp [hy]))
  simp only [List.flatMap_cons, List.length_append, List.length_cons]; omega
end Go.Proofs.YtlmnaffhadeolaaGreatDoor

namespace Go.Proofs.YtlmnaffhadeolaaGreatDoor
open Go Go.RowKit
theorem repKs_iff {ok : Nat → Prop} {w : World} {es : Array MapEntry} : ∀ (kvs : List (Nat × D)), RepKs ok w es kvs ↔ ∀ kv ∈ kvs, ∃ e ∈ es, e.key = .int .u32 kv.1 ∧ Rep ok w kv.2 [e.val]
 | [] => by simp [RepKs]
 | kv :: kvs => by simp only [RepKs, repKs_iff kvs, List.mem_cons, forall_eq_or_imp]
theorem mem_setTag {k : Nat} {v : List UInt8} : ∀ {u : List (Nat × List UInt8)}, Rising u → ∀ {kv : Nat × List UInt8}, kv ∈ setTag k v u ↔ kv = (k, v) ∨ (kv ∈ u ∧ kv.1 ≠ k)
 | [], _, kv => by simp [setTag]
 | x :: u, h, kv => by
  have hx := List.pairwise_cons.1 h
  simp only [setTag]
  split
  ·rename_i hlt
   simp only [List.mem_cons, mem_setTag hx.2]
   constructor
   ·rintro (rfl | rfl | ⟨h1, h2⟩)
    ·exact .inr ⟨.inl rfl, by omega⟩
    ·exact .inl rfl
    ·exact .inr ⟨.inr h1, h2⟩
   ·rintro (rfl | ⟨rfl | h1, h2⟩)
    ·exact .inr (.inl rfl)
    ·exact .inl rfl
    ·exact .inr (.inr ⟨h1, h2⟩)
  ·split
   ·rename_i h1 h2
    simp only [List.mem_cons]
    constructor
    ·rintro (rfl | h3)
     ·exact .inl rfl
     ·exact .inr ⟨.inr h3, by have := hx.1 kv h3; omega⟩
    ·rintro (rfl | ⟨rfl | h3, h4⟩)
     ·exact .inl rfl
     ·exact absurd h2 h4
     ·exact .inr h3
   ·rename_i h1 h2
    simp only [List.mem_cons]
    constructor
    ·rintro (rfl | rfl | h3)
     ·exact .inl rfl
     ·exact .inr ⟨.inl rfl, h2⟩
     ·exact .inr ⟨.inr h3, by have := hx.1 kv h3; omega⟩
    ·rintro (rfl | ⟨rfl | h3, _⟩)
     ·exact .inl rfl
     ·exact .inr (.inl rfl)
     ·exact .inr (.inr h3)
theorem setTag_rising {k : Nat} {v : List UInt8} : ∀ {u : List (Nat × List UInt8)}, Rising u → Rising (setTag k v u)
 | [], _ => by simp [setTag, Rising]
 | x :: u, h => by
  have hx := List.pairwise_cons.1 h
  simp only [setTag]
  split
  ·rename_i hlt
   refine List.pairwise_cons.2 ⟨fun y hy => ?_, setTag_rising hx.2⟩
   rcases (mem_setTag hx.2).1 hy with rfl | ⟨h1, _⟩
   ·exact hlt
   ·exact hx.1 y h1
  ·split
   ·rename_i h1 h2
    exact List.pairwise_cons.2 ⟨fun y hy => by have := hx.1 y hy; show k < _; omega, hx.2⟩
   ·rename_i h1 h2
    refine List.pairwise_cons.2 ⟨fun y hy => ?_, h⟩
    rcases List.mem_cons.1 hy with rfl | hm
    ·show k < _; omega
    ·have := hx.1 y hm; show k < _; omega
theorem setTag_length {k : Nat} {v : List UInt8} : ∀ {u : List (Nat × List UInt8)}, Rising u → (setTag k v u).length = if k ∈ u.map (·.1) then u.length else u.length + 1
 | [], _ => by simp [setTag]
 | x :: u, h => by
  have hx := List.pairwise_cons.1 h
  have ih := setTag_length (k := k) (v := v) hx.2
  simp only [setTag]
  split
  ·rename_i hlt
   simp only [List.length_cons, ih, List.map_cons, List.mem_cons]
   have : (k = x.1 ∨ k ∈ u.map (·.1)) ↔ k ∈ u.map (·.1) := by
    constructor
    ·rintro (h | h)
     ·omega
     ·exact h
    ·exact .inr
   simp only [this]
   split <;> rfl
  ·split
   ·rename_i h1 h2
    rw [if_pos (by simp [h2])]; simp
   ·rename_i h1 h2
    rw [if_neg ?_]
    ·simp
    ·simp only [List.map_cons, List.mem_cons, List.mem_map, not_or, not_exists, not_and]
     refine ⟨fun e => h2 e.symm, fun y hy e => ?_⟩
     have := hx.1 y hy
     omega
section
variable {P : Program} {w : World} {mty kt et : TypeId} {r clock : Nat} {es : Array MapEntry} {ks : List Nat}
theorem run_mapUpd (hm : P.underlying mty = some (.map kt et)) (hd : P.underlying kt = some (.int .u32)) (hb : w.heap[r]? = some (.map es clock)) (hmap : Mapped es clock ks) (hin : ∀ k ∈ ks, ∃ e ∈ es, e.key = .int .u32 k) (key : Nat) (val : Value) :
  ∃ w' es' clock', (Instr.mapUpdate mty (.map (some r)) (.int .u32 key) val).run P w = .ok () w' ∧ w'.heap[r]? = some (.map es' clock') ∧ Chg (· = r) w w' ∧ w'.heap.size = w.heap.size ∧ MapKept.Stamped es' clock' ∧
   ((key ∉ ks ∧ es' = es.push { key := .int .u32 key, val := val, born := clock }) ∨ (key ∈ ks ∧ ∃ j e, es[j]? = some e ∧ e.key = .int .u32 key ∧ es' = es.modify j fun e => { e with key := .int .u32 key, val := val })) := by
 obtain ⟨h1, h2, h3, _⟩ := hmap
 have hk : MapKept.IsKey (.int .u32) (.int .u32 (key : Int)) := rfl
 have hks : ∀ x ∈ es.toList, MapKept.IsKey (.int .u32) x.key := fun x hx => by
  obtain ⟨k, _, e⟩ := h3 x hx
  rw [e]; rfl
 have chg : ∀ o, Chg (· = r) w { w with heap := w.heap.setIfInBounds r o } := fun o => ⟨rfl, rfl, rfl, by simp, fun k _ hne => (MapKept.heap_set hb).2 k hne⟩
 rcases MapKept.findNow_spec hk es.toList 0 hks with ⟨g1, g2⟩ | ⟨j, e, g1, g2, g3⟩
 ·refine ⟨_, es.push { key := .int .u32 key, val := val, born := clock }, clock + 1, ?_, (MapKept.heap_set hb).1, chg _, by simp, MapKept.stamped_push h2 g2, .inl ⟨fun hin' => ?_, rfl⟩⟩
  ·simp [Instr.mapUpdate, run_underlying hm, MapKept.run_getObj_map hb, MapKept.run_checkKey hd hk, MapKept.run_findKey hd g1, MapKept.run_setObj_map _ hb, Result.andThen]
  ·obtain ⟨x, hx, e⟩ := hin key hin'
   exact g2 x (Array.mem_toList_iff.2 hx) e
 ·have hj : es[j]? = some e := by simpa using g2
  refine ⟨_, es.modify j fun e => { e with key := .int .u32 key, val := val }, clock, ?_, (MapKept.heap_set hb).1, chg _, by simp, ?_, .inr ⟨?_, j, e, hj, g3, rfl⟩⟩
  ·simp [Instr.mapUpdate, run_underlying hm, MapKept.run_getObj_map hb, MapKept.run_checkKey hd hk, MapKept.run_findKey hd g1, hj, g3, MapKept.run_keyThatStays hk, MapKept.run_setObj_map _ hb, Result.andThen]
  ·exact MapKept.stamped_modify h2 _ _ (fun _ _ => rfl) (fun e' _ he' => by rw [hj] at he'; cases he'; exact g3.symm)
  ·obtain ⟨k, hk', e'⟩ := h3 e (Array.mem_toList_iff.2 (Array.mem_of_getElem? hj))
   rw [g3] at e'
   simp only [Value.int.injEq, true_and] at e'
   have : key = k := by omega
   rw [this]; exact hk'
structure TagMap (w : World) (sb r : Nat) (u : List (Nat × List UInt8)) : Prop where
 at_ : ∃ es clock, w.heap[r]? = some (.map es clock) ∧ Mapped es clock (u.map (·.1)) ∧ RepKs (fun b => b = sb) w es (u.map fun kv => (kv.1, bytesD kv.2))
 up : Rising u
theorem TagMap.keep {w w' : World} {S : Nat → Prop} {sb r : Nat} {u : List (Nat × List UInt8)} (h : TagMap w sb r u) (hc : Chg S w w') (hr : ¬ S r) (hs : ¬ S sb) (hsb : sb < w.heap.size) : TagMap w' sb r u := by
 obtain ⟨⟨es, clock, hb, hm, hk⟩, hu⟩ := h
 have hlt : r < w.heap.size := (Array.getElem?_eq_some_iff.1 hb).1
 exact ⟨⟨es, clock, (hc.block r hlt hr).trans hb, hm, RepKs.mono (fun b hb => ⟨hb, by subst hb; exact hc.block b hsb hs⟩) es _ hk⟩, hu⟩
theorem src_rep {w : World} {sb : Nat} {v : Value} {s : List UInt8} (h : SrcV w sb v s) : Rep (fun b => b = sb) w (bytesD s) [v] := by
 simp only [bytesD, Rep, List.length_map]
 rcases h with ⟨rfl, rfl⟩ | ⟨o, c, rfl, hle, hcs, _⟩
 ·exact ⟨none, 0, rfl, Nat.le_refl _, .inl rfl⟩
 ·exact ⟨_, c, rfl, hle, .inr ⟨sb, o, bv s, rfl, rfl, hcs, (reps_bytes s _).2 rfl⟩⟩
theorem run_tagSet (hm : P.underlying mty = some (.map kt et)) (hd : P.underlying kt = some (.int .u32)) {sb : Nat} {u : List (Nat × List UInt8)} (h : TagMap w sb r u) (hne : r ≠ sb) (hsb : sb < w.heap.size) (key : Nat) {val : Value} {s : List UInt8} (hv : SrcV w sb val s) :
  ∃ w', (Instr.mapUpdate mty (.map (some r)) (.int .u32 key) val).run P w = .ok () w' ∧ Chg (· = r) w w' ∧ w'.heap.size = w.heap.size ∧ TagMap w' sb r (setTag key s u) := by
 obtain ⟨⟨es, clock, hb, hmap, hk⟩, hu⟩ := h
 rw [repKs_iff] at hk
 have hk' : ∀ kv ∈ u, ∃ e ∈ es, e.key = .int .u32 kv.1 ∧ Rep (fun b => b = sb) w (bytesD kv.2) [e.val] := fun kv hkv => hk (kv.1, bytesD kv.2) (List.mem_map.2 ⟨kv, hkv, rfl⟩)
 obtain ⟨w', es', clock', hrun, hb', hc, hsz, hst, hcase⟩ := run_mapUpd hm hd hb hmap (fun k hk0 => by
  obtain ⟨kv, hkv, rfl⟩ := List.mem_map.1 hk0
  obtain ⟨e, he, h1, _⟩ := hk' kv hkv
  exact ⟨e, he, h1⟩) key val
 have keep : ∀ {d : D} {cs : List Value}, Rep (fun b => b = sb) w d cs → Rep (fun b => b = sb) w' d cs := fun hr => Rep.mono (fun b hb => ⟨hb, by subst hb; exact hc.block b hsb (fun e => hne e.symm)⟩) _ _ hr
 have hnew : Rep (fun b => b = sb) w' (bytesD s) [val] := keep (src_rep hv)
 have hlen := setTag_length (k := key) (v := s) hu
 refine ⟨w', hrun, hc, hsz, ⟨⟨es', clock', hb', ⟨?_, hst, ?_, List.pairwise_map.2 (setTag_rising hu)⟩, ?_⟩, setTag_rising hu⟩⟩
 ·rw [List.length_map, hlen]
  rcases hcase with ⟨hni, rfl⟩ | ⟨hin, j, e, _, _, rfl⟩
  ·rw [if_neg hni, Array.size_push, hmap.1, List.length_map]
  ·rw [if_pos hin, Array.size_modify, hmap.1, List.length_map]
 ·intro e he
  rcases hcase with ⟨hni, rfl⟩ | ⟨hin, j, e0, hj, hj2, rfl⟩
  ·simp only [Array.toList_push, List.mem_append, List.mem_singleton] at he
   rcases he with he | rfl
   ·obtain ⟨k, hk0, e1⟩ := hmap.2.2.1 e he
    obtain ⟨kv, hkv, rfl⟩ := List.mem_map.1 hk0
    refine ⟨kv.1, List.mem_map.2 ⟨kv, (mem_setTag hu).2 (.inr ⟨hkv, fun e2 => hni (by rw [← e2]; exact hk0)⟩), rfl⟩, e1⟩
   ·exact ⟨key, List.mem_map.2 ⟨(key, s), (mem_setTag hu).2 (.inl rfl), rfl⟩, rfl⟩
  ·have hkeys := MapKept.modify_keys (es := es) j (fun e => { e with key := .int .u32 key, val := val }) (fun e' he' => by rw [hj] at he'; cases he'; exact hj2.symm)
   have : e.key ∈ (es.modify j fun e => { e with key := .int .u32 key, val := val }).toList.map (·.key) := List.mem_map.2 ⟨e, he, rfl⟩
   rw [hkeys] at this
   obtain ⟨y, hy, e1⟩ := List.mem_map.1 this
   obtain ⟨k, hk0, e2⟩ := hmap.2.2.1 y hy
   obtain ⟨kv, hkv, rfl⟩ := List.mem_map.1 hk0
   by_cases hkk : kv.1 = key
   ·exact ⟨key, List.mem_map.2 ⟨(key, s), (mem_setTag hu).2 (.inl rfl), rfl⟩, by rw [← e1, e2, hkk]⟩
   ·exact ⟨kv.1, List.mem_map.2 ⟨kv, (mem_setTag hu).2 (.inr ⟨hkv, hkk⟩), rfl⟩, by rw [← e1, e2]⟩
 ·rw [repKs_iff]
  intro kvd hkvd
  obtain ⟨kv, hkv, rfl⟩ := List.mem_map.1 hkvd
  rcases (mem_setTag hu).1 hkv with rfl | ⟨hold, hkne⟩
  ·rcases hcase with ⟨hni, rfl⟩ | ⟨hin, j, e0, hj, hj2, rfl⟩
   ·exact ⟨_, Array.mem_push_self, rfl, hnew⟩
   ·refine ⟨{ e0 with key := .int .u32 key, val := val }, ?_, rfl, hnew⟩
    have hlt := (Array.getElem?_eq_some_iff.1 hj).1
    refine Array.mem_of_getElem? (i := j) ?_
    rw [Array.getElem?_modify, if_pos rfl, hj]; rfl
  ·obtain ⟨e, he, h1, h2⟩ := hk' kv hold
   rcases hcase with ⟨hni, rfl⟩ | ⟨hin, j, e0, hj, hj2, rfl⟩
   ·exact ⟨e, Array.mem_push_of_mem _ he, h1, keep h2⟩
   ·obtain ⟨i, hi⟩ := Array.mem_iff_getElem?.1 he
    have hij : j ≠ i := by
     rintro rfl
     rw [hj] at hi
     simp only [Option.some.injEq] at hi
     subst hi
     rw [hj2] at h1
     simp only [Value.int.injEq, true_and] at h1
     exact hkne (by omega)
    refine ⟨e, Array.mem_of_getElem? (i := i) ?_, h1, keep h2⟩
    rw [Array.getElem?_modify, if_neg hij]; exact hi
theorem tagMap_new (w : World) (sb : Nat) : TagMap (w.alloc (.map #[] 0)) sb w.heap.size [] := ⟨⟨#[], 0, heap_alloc_new w _, ⟨rfl, MapKept.stamped_empty 0, by simp, by simp⟩, by simp [RepKs]⟩, by simp [Rising]⟩
theorem TagMap.rep {w : World} {sb r lo : Nat} {u : List (Nat × List UInt8)} (h : TagMap w sb r u) (hr : lo ≤ r) (hsb : sb < w.heap.size) : Rep (Dk sb lo w) w (tagsK u) [.map (some r)] := by
 obtain ⟨⟨es, clock, hb, hm, hk⟩, hu⟩ := h
 have hlt : r < w.heap.size := (Array.getElem?_eq_some_iff.1 hb).1
 simp only [tagsK, Rep]
 refine .inr ⟨r, es, clock, rfl, ⟨.inr hr, hlt⟩, hb, ?_, RepKs.mono (fun b hb => ⟨by subst hb; exact ⟨.inl rfl, hsb⟩, rfl⟩) es _ hk⟩
 rw [List.map_map]
 exact hm
end
end Go.Proofs.YtlmnaffhadeolaaGreatDoor

namespace Go.Proofs.YtlmnaffhadeolaaGreatDoor
open Go Go.RowKit
section
variable {P : Program} {ops : Array Oper} {Q : Exit → Act → World → Prop} {N : Nat} {rest : List Oper} {L : Sl} {w : World} {d : Nat} {ty : TypeId} {pos : String} {aft : Array Edge}
theorem wl_callV {x : Operand} {f : FuncId} {bs vs : List Value} {args : List Operand} {ats : Array TypeId} (hx : ev L x = some (.func (.func f) #[] bs.toArray)) (ha : evs L args = some vs) (hf : isFn P f = true) (hd : Nat.blt d N = true)
  (hc : Calls P f (vs ++ bs).toArray w fun e w' => ∃ v, e = .returned v ∧ WL rest P ops Q N ((d, v) :: L) w') :
  WL (⟨some d, .call ⟨.value x, args.toArray, ats⟩, ty, pos, aft, none⟩ :: rest) P ops Q N L w := by
 intro a k
 refine wpList_plain rfl (fun K hK => ?_)
 unfold Oper.wp
 have hargs : args.toArray.map a.eval = vs.toArray := by rw [List.map_toArray, k.evals ha]
 have hr : (execOp a.eval ⟨some d, .call ⟨.value x, args.toArray, ats⟩, ty, pos, aft, none⟩).run P w = .ok (.enter f (vs ++ bs).toArray) w := by
  unfold isFn at hf
  cases hfn : P.funcs[f]? with
  | none => simp [hfn] at hf
  | some fn =>
   simp [hfn] at hf
   have h2 : fn.body ≠ none := by intro e; simp [e] at hf
   have h3 := hf.1
   simp only [execOp, resolve, Deferred.ofValue, k.eval hx, hargs, Sem.run_bind, Sem.run_pure, Result.andThen_ok, invoke, callFunc, run_program, hfn]
   simp [h3, h2]
 rw [hr]
 refine hc.mono (fun e w' he => ?_)
 obtain ⟨v, rfl, hv⟩ := he
 exact hK _ _ (hv _ (k.put v hd))
theorem wl_makeFunc {f : FuncId} {caps : List Operand} {vs : List Value} (ha : evs L caps = some vs) (hd : Nat.blt d N = true) (h : WL rest P ops Q N ((d, .func (.func f) #[] vs.toArray) :: L) w) :
  WL (⟨some d, .makeFunc (.func f) #[] caps.toArray, ty, pos, aft, none⟩ :: rest) P ops Q N L w := by
 intro a k
 refine st_of (o := ⟨some d, .makeFunc (.func f) #[] caps.toArray, ty, pos, aft, none⟩) (v := .func (.func f) #[] vs.toArray) (w' := w) rfl ?_ (h _ (k.put _ hd))
 have hargs : caps.toArray.map a.eval = vs.toArray := by rw [List.map_toArray, k.evals ha]
 simp [execOp, Instr.makeFunc, hargs]
theorem wl_makeIface {x : Operand} {t e : TypeId} {v : Value} (hx : ev L x = some v) (hu : P.underlying t = some (.slice e)) (hd : Nat.blt d N = true) (h : WL rest P ops Q N ((d, .iface t v) :: L) w) :
  WL (⟨some d, .makeInterface t x, ty, pos, aft, none⟩ :: rest) P ops Q N L w := by
 intro a k
 refine st_of (o := ⟨some d, .makeInterface t x, ty, pos, aft, none⟩) (v := .iface t v) (w' := w) rfl ?_ (h _ (k.put _ hd))
 simp [execOp, Instr.makeInterface, run_underlying hu, k.eval hx]
theorem wl_extract {x : Operand} {i : Nat} {vs : Array Value} {v : Value} (hx : ev L x = some (.tuple vs)) (hv : vs[i]? = some v) (hd : Nat.blt d N = true) (h : WL rest P ops Q N ((d, v) :: L) w) :
  WL (⟨some d, .extract x i, ty, pos, aft, none⟩ :: rest) P ops Q N L w := by
 intro a k
 refine st_of (o := ⟨some d, .extract x i, ty, pos, aft, none⟩) (v := v) (w' := w) rfl ?_ (h _ (k.put _ hd))
 simp [execOp, Instr.extract, k.eval hx, hv]
theorem wl_range {x : Operand} {t kt et bm clock : Nat} {es : Array MapEntry} (hx : ev L x = some (.map (some bm))) (hu : P.underlying t = some (.map kt et)) (hb : w.heap[bm]? = some (.map es clock)) (hd : Nat.blt d N = true)
  (h : WL rest P ops Q N ((d, .pointer (some ⟨w.heap.size, 0, none⟩)) :: L) (w.alloc (.mapIter (some bm) clock #[] clock))) : WL (⟨some d, .range t x, ty, pos, aft, none⟩ :: rest) P ops Q N L w := by
 intro a k
 refine st_of (o := ⟨some d, .range t x, ty, pos, aft, none⟩) (v := .pointer (some ⟨w.heap.size, 0, none⟩)) (w' := w.alloc (.mapIter (some bm) clock #[] clock)) rfl ?_ (h _ (k.put _ hd))
 simp [execOp, k.eval hx, run_range_map w t kt et bm es clock hu hb]
theorem wl_next {x : Operand} {r bm since c0 clock : Nat} {seen : Array Nat} {es : Array MapEntry} (hx : ev L x = some (.pointer (some ⟨r, 0, none⟩))) (hr : w.heap[r]? = some (.mapIter (some bm) since seen c0)) (hb : w.heap[bm]? = some (.map es clock)) (hold : ∀ x ∈ es.toList, x.born < since) (hsc : since ≤ c0) (hd : Nat.blt d N = true)
  (h0 : (leftOf es seen).size = 0 → WL rest P ops Q N ((d, .tuple #[.bool false]) :: L) w)
  (h1 : ∀ e ∈ (leftOf es seen).toList, ∀ w', w'.heap[r]? = some (.mapIter (some bm) since (seen.push e.born) clock) → Chg (· = r) w w' → w'.heap.size = w.heap.size → WL rest P ops Q N ((d, .tuple #[.bool true, e.key, e.val]) :: L) w') :
  WL (⟨some d, .next x false, ty, pos, aft, none⟩ :: rest) P ops Q N L w := by
 intro a k
 have hlt : r < w.heap.size := (Array.getElem?_eq_some_iff.1 hr).1
 rcases run_next_at (P := P) w ty r bm since c0 seen es clock hr hb hold hsc with ⟨hz, hrun⟩ | ⟨e, he, w1, hw1, hrun⟩
 ·refine st_of (o := ⟨some d, .next x false, ty, pos, aft, none⟩) (v := .tuple #[.bool false]) (w' := w) rfl ?_ (h0 hz _ (k.put _ hd))
  simp [execOp, k.eval hx, hrun]
 ·refine st_of (o := ⟨some d, .next x false, ty, pos, aft, none⟩) (v := .tuple #[.bool true, e.key, e.val]) (w' := Go.ChangeMaps.setBlock w1 r (.mapIter (some bm) since (seen.push e.born) clock)) rfl ?_ (h1 e he _ ?_ ?_ ?_ _ (k.put _ hd))
  ·simp [execOp, k.eval hx, hrun]
  ·rcases hw1 with rfl | rfl <;> simp [Go.ChangeMaps.setBlock, hlt]
  ·rcases hw1 with rfl | rfl <;> exact ⟨rfl, rfl, rfl, by simp [Go.ChangeMaps.setBlock], fun j _ hn => by
    have : r ≠ j := fun e => hn e.symm
    simp [Go.ChangeMaps.setBlock, this] <;> rfl⟩
  ·rcases hw1 with rfl | rfl <;> simp [Go.ChangeMaps.setBlock]
theorem wl_entry {x : Operand} {r bm since clock : Nat} {seen : Array Nat} {es : Array MapEntry} {e : MapEntry} (hx : ev L x = some (.pointer (some ⟨r, 0, none⟩))) (hr : w.heap[r]? = some (.mapIter (some bm) since (seen.push e.born) clock)) (hb : w.heap[bm]? = some (.map es clock)) (he : e ∈ es.toList) (hn : (es.toList.map (·.born)).Nodup) (hd : Nat.blt d N = true)
  (h : WL rest P ops Q N ((d, .tuple #[e.key, e.val]) :: L) w) : WL (⟨some d, .entry x, ty, pos, aft, none⟩ :: rest) P ops Q N L w := by
 intro a k
 refine st_of (o := ⟨some d, .entry x, ty, pos, aft, none⟩) (v := .tuple #[e.key, e.val]) (w' := w) rfl ?_ (h _ (k.put _ hd))
 simp [execOp, k.eval hx, run_entry_at w r bm since seen es clock e hr hb he hn]
theorem wl_makeRow {t e sz B n : Nat} {kl kc : IntKind} {x : Operand} (hT : rowTy P t e sz = true) (hx : ev L x = some (.int kc (n : Int))) (hn : n ≤ many) (hd : Nat.blt d N = true) (hB : B ≤ w.heap.size)
  (h : ∀ w', w'.ownsRow B e sz (.slice (some ⟨w.heap.size, 0, none⟩) 0 n) 0 [] → w.grownBy w' none → w'.heap.size = w.heap.size + 1 → WL rest P ops Q N ((d, .slice (some ⟨w.heap.size, 0, none⟩) 0 n) :: L) w') :
  WL (⟨some d, .makeSlice t (.const (.int kl 0)) x, ty, pos, aft, none⟩ :: rest) P ops Q N L w := by
 intro a k
 obtain ⟨hu, i, z, hi, hs1, hb1, hz, hzc⟩ := rowTy_out hT
 have hm : i.bytes * n ≤ 281474976710656 := by have := Nat.mul_le_mul hb1 hn; simp only [many] at this; omega
 have h63 : n ≤ maxLen := by simp only [many, maxLen] at *; omega
 have h63' : (n : Int) ≤ 9223372036854775807 := by simp only [maxLen] at h63; omega
 have hb' : (i.bytes : Int) * (n : Int) ≤ 281474976710656 := by
  have h : ((i.bytes * n : Nat) : Int) ≤ 281474976710656 := by omega
  rwa [Int.natCast_mul] at h
 have hr := run_make (P := P) w t e i z hu hi hz kl kc 0 n (Int.le_refl _) (by omega) hb' h63'
 simp only [Int.toNat_zero, Int.toNat_natCast] at hr
 refine st_of (o := ⟨some d, .makeSlice t (.const (.int kl 0)) x, ty, pos, aft, none⟩) (w' := w.alloc (.cells (madeCells z.cells (n * i.size)) e)) rfl ?_ (h _ (by rw [← hs1]; exact World.ownsRow_made w _ n hB h63 (size_madeCells _ _)) (World.grownBy_alloc w _ none) (by simp) _ (k.put _ hd))
 simp only [execOp, eval_const, k.eval hx, Sem.run_bind, hr, Result.andThen_ok, Sem.run_pure]
theorem wl_lookup {x y : Operand} {t kt et bm clock key : Nat} {es : Array MapEntry} {ks : List Nat} (hx : ev L x = some (.map (some bm))) (hy : ev L y = some (.int .u32 (key : Int))) (hu : P.underlying t = some (.map kt et)) (hk : P.underlying kt = some (.int .u32)) (hb : w.heap[bm]? = some (.map es clock)) (hm : Mapped es clock ks) (hin : ∃ e ∈ es, e.key = .int .u32 (key : Int)) (hd : Nat.blt d N = true)
  (h : ∀ e ∈ es, e.key = .int .u32 (key : Int) → WL rest P ops Q N ((d, e.val) :: L) w) : WL (⟨some d, .lookup t x y false, ty, pos, aft, none⟩ :: rest) P ops Q N L w := by
 intro a k
 have hik : MapKept.IsKey (.int .u32) (.int .u32 (key : Int)) := rfl
 have hks : ∀ x ∈ es.toList, MapKept.IsKey (.int .u32) x.key := fun x hx => by
  obtain ⟨k, _, e⟩ := hm.2.2.1 x hx
  rw [e]; rfl
 rcases MapKept.findNow_spec hik es.toList 0 hks with ⟨_, g2⟩ | ⟨j, e, g1, g2, g3⟩
 ·obtain ⟨e, he, hek⟩ := hin
  exact absurd hek (g2 e (Array.mem_toList_iff.2 he))
 ·have hj : es[j]? = some e := by simpa using g2
  refine st_of (o := ⟨some d, .lookup t x y false, ty, pos, aft, none⟩) (v := e.val) (w' := w) rfl ?_ (h e (Array.mem_of_getElem? hj) g3 _ (k.put _ hd))
  simp [execOp, k.eval hx, k.eval hy, Instr.lookup, run_underlying hu, MapKept.run_getObj_map hb, MapKept.run_checkKey hk hik, MapKept.run_findKey hk g1, Result.andThen]
end
theorem sorted_one : ∀ (a b : List Int), a.Perm b → a.Pairwise (fun x y => x ≤ y) → b.Pairwise (fun x y => x ≤ y) → a = b
 | [], b, h, _, _ => (List.Perm.nil_eq h)
 | x :: a, [], h, _, _ => by have := h.length_eq; simp at this
 | x :: a, y :: b, h, ha, hb => by
  have ha' := List.pairwise_cons.1 ha
  have hb' := List.pairwise_cons.1 hb
  have hx : x ∈ y :: b := h.mem_iff.1 (by simp)
  have hy : y ∈ x :: a := h.mem_iff.2 (by simp)
  have e : x = y := by
   rcases List.mem_cons.1 hx with e | hx
   ·exact e
   ·rcases List.mem_cons.1 hy with e | hy
    ·exact e.symm
    ·have := hb'.1 x hx; have := ha'.1 y hy; omega
  subst e
  rw [sorted_one a b h.cons_inv ha'.2 hb'.2]
theorem perm_sub {α : Type} [DecidableEq α] : ∀ (a b : List α), a.Nodup → (∀ x ∈ a, x ∈ b) → b.length ≤ a.length → a.Perm b
 | [], b, _, _, h => by
  have : b = [] := List.length_eq_zero_iff.1 (by simpa using h)
  subst this; exact List.Perm.refl _
 | x :: a, b, hn, hs, hl => by
  have hn' := List.nodup_cons.1 hn
  have hx : x ∈ b := hs x (by simp)
  have h1 := List.perm_cons_erase hx
  refine (List.Perm.cons x (perm_sub a (b.erase x) hn'.2 (fun y hy => ?_) ?_)).trans h1.symm
  ·exact (List.mem_erase_of_ne (fun e => hn'.1 (by rw [← e]; exact hy))).2 (hs y (by simp [hy]))
  ·rw [List.length_erase_of_mem hx]; simp at hl; omega
theorem leftOf_push {es : Array MapEntry} {seen : Array Nat} {e : MapEntry} (he : e ∈ (leftOf es seen).toList) (hn : (es.toList.map (·.born)).Nodup) : (leftOf es seen).toList.Perm (e :: (leftOf es (seen.push e.born)).toList) := by
 have h1 : (leftOf es (seen.push e.born)).toList = (leftOf es seen).toList.filter (fun x => x.born != e.born) := by
  simp only [leftOf, Array.toList_filter, List.filter_filter]
  apply List.filter_congr
  intro x _
  simp only [Array.contains_push]
  cases hb : (x.born == e.born) <;> cases seen.contains x.born <;> simp_all
 rw [h1]
 have hnd : ((leftOf es seen).toList.map (·.born)).Nodup := by
  simp only [leftOf, Array.toList_filter]
  exact (List.filter_sublist.map _).nodup hn
 generalize (leftOf es seen).toList = l at he hnd
 induction l with
 | nil => cases he
 | cons y l ih =>
  simp only [List.map_cons, List.nodup_cons] at hnd
  rcases List.mem_cons.1 he with rfl | he
  ·have hall : l.filter (fun x => x.born != e.born) = l := by
    refine List.filter_eq_self.2 (fun x hx => ?_)
    have : x.born ≠ e.born := fun h => hnd.1 (by rw [← h]; exact List.mem_map.2 ⟨x, hx, rfl⟩)
    simpa using this
   rw [List.filter_cons, if_neg (by simp), hall]
  ·have hne : y.born ≠ e.born := fun h => hnd.1 (by rw [h]; exact List.mem_map.2 ⟨e, he, rfl⟩)
   rw [List.filter_cons, if_pos (by simpa using hne)]
   exact (List.Perm.cons y (ih he hnd.2)).trans (List.Perm.swap _ _ _)
def intOf : Value → Int
 | .int _ n => n
 | _ => 0
theorem keys_sorted {es : Array MapEntry} {clock : Nat} {ks : List Nat} {zs zs' : List Int} (hm : Mapped es clock ks) (hk : ∀ k ∈ ks, ∃ e ∈ es, e.key = .int .u32 (k : Int)) (hz : (zs.map (Value.int .u32)).Perm (es.toList.map (·.key))) (hp : zs'.Perm zs) (hs : zs'.Pairwise (fun x y => x ≤ y)) : zs' = ks.map (fun k : Nat => (k : Int)) := by
 have h1 : (ks.map (fun k : Nat => (k : Int))).Perm (es.toList.map (fun e => intOf e.key)) := by
  refine perm_sub _ _ ?_ ?_ ?_
  ·refine List.pairwise_map.2 (hm.2.2.2.imp (fun h e => by omega))
  ·intro x hx
   obtain ⟨k, hk', rfl⟩ := List.mem_map.1 hx
   obtain ⟨e, he, hek⟩ := hk k hk'
   exact List.mem_map.2 ⟨e, Array.mem_toList_iff.2 he, by rw [hek]; rfl⟩
  ·simp [hm.1]
 have h2 : zs.Perm (es.toList.map (fun e => intOf e.key)) := by
  have := hz.map intOf
  simpa [List.map_map, Function.comp_def, intOf] using this
 exact sorted_one _ _ ((hp.trans h2).trans h1.symm) hs (List.pairwise_map.2 (hm.2.2.2.imp (fun h => by omega)))
theorem semT_at : ∀ (kvs : List (Nat × D)) (ys : List UInt8), semT kvs = some ys → ∀ i (h : i < kvs.length), ∃ pre cs post, semT (kvs.take i) = some pre ∧ ((sliceOf kvs[i].2).bind fun s => bytesOf s.2) = some cs ∧ kvs[i].1 < 4294967296 ∧ cs.length < 2147483648 ∧
  semT (kvs.take (i + 1)) = some (pre ++ (uvar kvs[i].1 ++ uvar cs.length ++ cs)) ∧ ys = pre ++ (uvar kvs[i].1 ++ uvar cs.length ++ cs) ++ post
 | [], _, _, i, h => by cases h
 | kv :: r, ys, hs, i, h => by
  simp only [semT] at hs
  split at hs
  ·rename_i cs b hc hb
   split at hs
   ·rename_i hlt
    cases hs
    cases i with
    | zero =>
     refine ⟨[], cs, b, by simp [semT], by simpa using hc, hlt.1, hlt.2, ?_, by simp⟩
     simp [semT, hc, hlt]
    | succ i =>
     obtain ⟨pre, cs', post, k1, k2, k3, k4, k5, k6⟩ := semT_at r b hb i (by simpa using h)
     refine ⟨uvar kv.1 ++ uvar cs.length ++ cs ++ pre, cs', post, ?_, by simpa using k2, by simpa using k3, k4, ?_, ?_⟩
     ·simp only [List.take_succ_cons, semT, hc, k1, if_pos hlt]
     ·simp only [List.take_succ_cons, semT, hc, k5, if_pos hlt, List.getElem_cons_succ, List.append_assoc]
     ·rw [k6]; simp [List.append_assoc]
   ·cases hs
  ·cases hs
end Go.Proofs.YtlmnaffhadeolaaGreatDoor

namespace Go.Proofs.YtlmnaffhadeolaaGreatDoor
open Go Go.RowKit
theorem endR_out {flex : Bool} {off : Nat} {a r : List Ra} (h : endR flex off a = some r) : (flex = true ∧ a = .tags off :: r) ∨ (flex = false ∧ a = r) := by
 unfold endR at h
 cases flex with
 | false => simp only [Bool.false_eq_true, if_false, Option.some.injEq] at h; exact .inr ⟨rfl, h⟩
 | true =>
  simp only [if_true] at h
  split at h
  ·rename_i o r'
   cases hb : Nat.beq o off with
   | false => rw [hb] at h; cases h
   | true =>
    rw [hb] at h
    simp only [cond_true, Option.some.injEq] at h
    subst h
    rw [beq_out hb]
    exact .inl ⟨rfl, rfl⟩
  ·cases h
theorem isEnd_out {flex : Bool} {off : Nat} {a : List Ra} (h : isEnd flex off a = true) : endR flex off a = some [] := by
 unfold isEnd at h
 split at h
 ·assumption
 ·cases h
theorem isPrim_out {p : Rp} {a : List Ra} (h : isPrim p a = true) : a = [.prim p 0] := by
 unfold isPrim at h
 split at h
 ·rw [rpEq_out h]
 ·cases h
def Reads (_ver : Int) (_tg _flex : Bool) (sh : List Ck) (H : List D → Prop) (a r : List Ra) (off : Nat) (ys : List UInt8) : Prop :=
 ∀ (pre mid post : List D) (s : List UInt8), shDs mid = sh → unit pre → unit mid → D.widths pre = off →
  ∃ new new', rdAs a (pre ++ mid ++ post) (ys ++ s) = rdAs r (pre ++ new ++ post) s ∧ shDs new = sh ∧ unit new ∧ H new' ∧ shDs new' = sh ∧ pos new' ∧ Imp new new'
theorem reads_tags {ver : Int} {tg flex : Bool} (htg : flex = true → tg = true) {a r : List Ra} {off : Nat} {t : Tree} {fs : List Fld} (h : endR flex off a = some r) (hu : FitU fs t) :
  Reads ver tg flex (if tg then [.mp] else []) (HoldU tg flex t) a r off (if flex then uvar t.u.length ++ t.u.flatMap (fun kv => wTag kv.1 kv.2) else []) := by
 intro pre mid post s hsh hpre hmid hw
 rcases endR_out h with ⟨rfl, rfl⟩ | ⟨rfl, rfl⟩
 ·have := htg rfl
  subst this
  simp only [if_true] at hsh ⊢
  have hr : Rising t.u := by rw [← hu.1]; exact unknown_rising _ _
  refine ⟨[tagsK t.u], [tagsK t.u], ?_, by simp [shDs, tagsK, shD], fun d hd => by simp at hd; subst hd; rfl, by simp [HoldU], by simp [shDs, tagsK, shD], fun d hd => by simp at hd; subst hd; simp [tagsK, D.width], Imp.refl _⟩
  simp only [rdAs, rdA]
  rw [tagsP_ok t.u s hr hu.2.1 hu.2.2]
  simp only [Option.bind_some]
  subst hw
  rw [putD_in (unit_pos hpre) (unit_pos hmid) (by rw [hsh]; simp [shDs, tagsK, shD])]
  rfl
 ·refine ⟨mid, mid, by simp, hsh, hmid, ?_, hsh, unit_pos hmid, Imp.refl _⟩
  unfold HoldU
  cases tg with
  | false =>
   simp only [Bool.false_eq_true, if_false] at hsh ⊢
   have := unit_len hmid
   rw [hsh] at this
   exact List.length_eq_zero_iff.1 this.symm
  | true =>
   simp only [if_true, Bool.false_eq_true, if_false] at hsh ⊢
   have := unit_len hmid
   rw [hsh] at this
   obtain ⟨d, rfl⟩ := List.length_eq_one_iff.1 this.symm
   exact ⟨d, rfl, by simpa [shDs] using hsh⟩
theorem reads_app {ver : Int} {tg flex : Bool} {sh1 sh2 : List Ck} {H1 H2 : List D → Prop} {a b r : List Ra} {off : Nat} {y1 y2 : List UInt8} (h1 : Reads ver tg flex sh1 H1 a b off y1) (h2 : Reads ver tg flex sh2 H2 b r (off + sh1.length) y2) :
  Reads ver tg flex (sh1 ++ sh2) (fun ds => ∃ x y, ds = x ++ y ∧ H1 x ∧ H2 y ∧ shDs x = sh1 ∧ pos x) a r off (y1 ++ y2) := by
 intro pre mid post s hsh hpre hmid hw
 obtain ⟨m1, m2, rfl, k1, k2, u1, u2⟩ := unit_split hmid hsh
 obtain ⟨n1, n1', e1, e2, e3, e4, e5, e6, e7⟩ := h1 pre m1 (m2 ++ post) (y2 ++ s) k1 hpre u1 hw
 obtain ⟨n2, n2', g1, g2, g3, g4, g5, g6, g7⟩ := h2 (pre ++ n1) m2 post s k2 (unit_app hpre e3) u2 (by rw [widths_append, hw, ← shs_width, e2])
 refine ⟨n1 ++ n2, n1' ++ n2', ?_, by rw [shDs_append, e2, g2], unit_app e3 g3, ⟨n1', n2', rfl, e4, g4, e5, e6⟩, by rw [shDs_append, e5, g5], pos_append e6 g6, Imp.app e7 g7⟩
 have a1 : pre ++ (m1 ++ m2) ++ post = pre ++ m1 ++ (m2 ++ post) := by simp [List.append_assoc]
 have a2 : pre ++ n1 ++ (m2 ++ post) = pre ++ n1 ++ m2 ++ post := by simp [List.append_assoc]
 have a3 : pre ++ (n1 ++ n2) ++ post = pre ++ n1 ++ n2 ++ post := by simp [List.append_assoc]
 rw [a1, List.append_assoc y1, e1, a2, g1, a3]
theorem Reads.weak {ver : Int} {tg flex : Bool} {sh : List Ck} {H H' : List D → Prop} {a r : List Ra} {off : Nat} {ys : List UInt8} (h : Reads ver tg flex sh H a r off ys) (k : ∀ ds, H ds → H' ds) : Reads ver tg flex sh H' a r off ys := by
 intro pre mid post s hsh hpre hmid hw
 obtain ⟨n1, n1', e1, e2, e3, e4, e5⟩ := h pre mid post s hsh hpre hmid hw
 exact ⟨n1, n1', e1, e2, e3, k _ e4, e5⟩
theorem reads_part {ver : Int} {tg flex : Bool} (htg : flex = true → tg = true) {a b r : List Ra} {off : Nat} {t : Tree} {fs : List Fld} (h1 : Reads ver tg flex (shFs tg fs) (HoldFs ver tg flex fs 0 t) a b off (wFs ver flex fs 0 t)) (h : endR flex (off + (shFs tg fs).length) b = some r) (hf : FitT ver fs t) :
  Reads ver tg flex (shP tg fs) (HoldP ver tg flex fs t) a r off (wPart ver flex fs t) := by
 have e : wPart ver flex fs t = wFs ver flex fs 0 t ++ (if flex then uvar t.u.length ++ t.u.flatMap (fun kv => wTag kv.1 kv.2) else []) := by
  unfold wPart
  rw [allTagsK_eq hf.1 hf.2]
  cases flex <;> simp [asm]
 rw [e]
 exact (reads_app h1 (reads_tags htg h hf.2)).weak (fun ds ⟨x, y, e1, e2, e3, _⟩ => ⟨x, y, e1, e2, e3⟩)
theorem unit_lits (l : List Value) : unit (litsD l) := by
 intro d hd
 simp only [litsD, List.mem_map] at hd
 obtain ⟨u, _, rfl⟩ := hd
 rfl
mutual
theorem mF_ok (ver : Int) (tg flex : Bool) (htg : flex = true → tg = true) : ∀ (f : Fld) (a r : List Ra) (off : Nat), mF ver tg flex off f a = some r → ∀ t, FitF ver f t → Reads ver tg flex (shF tg f) (HoldF ver tg flex f t) a r off (wField ver flex f t)
 | .mk kind fr upto nul tag df of sub, a, r, off, h, t, hfit => by
  have hM : Most = 32767 := rfl
  simp only [mF] at h
  simp only [FitF] at hfit
  obtain ⟨hnul, hfit⟩ := hfit
  have hH : ∀ ds, HoldF ver tg flex (.mk kind fr upto nul tag df of sub) t ds ↔ _ := fun ds => HoldF_mk ver tg flex kind fr upto nul tag df of sub t ds
  rw [wField_mk ver flex kind fr upto nul tag df of sub t _ rfl]
  by_cases h11 : kind = 11
  ·simp only [h11, if_true] at h hfit hH ⊢
   obtain ⟨hlen, hst, hpr⟩ := hfit
   have hth := things_of hlen
   split at h
   ·rename_i c nb o st dfl body rr
    cases hc : (c == flex) && (nb == decide (0 ≤ nul ∧ nul ≤ ver)) && Nat.beq o off && (st == decide (of = 10)) && decide (shDs (litsD dfl) = shE tg of sub) &&
     (if of = 10 then (flex || ne1 ver sub) && endsO flex (shFs tg sub).length (mFs ver tg flex 0 sub body) else isPrim (rpV of (-1) ver flex) body) with
    | false => rw [hc] at h; cases h
    | true =>
     rw [hc] at h
     simp only [cond_true, Option.some.injEq] at h
     subst h
     simp only [Bool.and_eq_true, beq_iff_eq, decide_eq_true_eq] at hc
     obtain ⟨⟨⟨⟨⟨g1, g2⟩, g3⟩, g4⟩, g5⟩, g6⟩ := hc
     subst g1
     have := beq_out g3; subst this
     have hel : ∀ s, ∃ dss els, rdRow body (litsD dfl) t.l.length (t.l.flatMap (wVal of c false (wPart ver c sub)) ++ s) = some (dss, s) ∧ dss.length = t.l.length ∧ els.length = t.l.length ∧ Imp (dss.map (elD st)) els ∧
       (if of = 10 then ∀ i, i < t.l.length → ∃ ps, els[i]? = some (.agg ps) ∧ HoldP ver tg c sub (att t i) ps else els = t.l.map (valK of (-1))) := by
      intro s
      by_cases h10 : of = 10
      ·simp only [h10, if_true, decide_true, Bool.and_eq_true] at g4 g5 g6 ⊢
       subst g4
       obtain ⟨g6, g7⟩ := g6
       unfold endsO at g7
       split at g7
       ·rename_i r' hr'
        have hend := isEnd_out g7
        rw [show wVal 10 c false (wPart ver c sub) = wPart ver c sub from funext fun x => by simp [wVal]]
        obtain ⟨dss, e1, e2, e3⟩ := rdRow_ok body (litsD dfl) (wPart ver c sub) (fun x nd => ∃ nd', HoldP ver tg c sub x nd' ∧ Imp nd nd') t.l (fun x hx s => by
         obtain ⟨hf, hu⟩ := hst h10 x hx
         have hR := reads_part (off := 0) htg (mFs_ok ver tg c htg sub body r' 0 hr' 0 x hf) (by rw [Nat.zero_add]; exact hend) ⟨hf, hu⟩
         obtain ⟨new, new', k1, k2, k3, k4, k5, k6, k7⟩ := hR [] (litsD dfl) [] s (by rw [g5]; simp [shE]) (fun d hd => by cases hd) (unit_lits _) rfl
         simp only [List.nil_append, List.append_nil, rdAs] at k1
         exact ⟨new, k1, new', k4, k7⟩) s
        have hch : ∀ i (hi : i < t.l.length), ∃ ps, HoldP ver tg c sub t.l[i] ps ∧ ∃ nd, dss[i]? = some nd ∧ Imp nd ps := by
         intro i hi
         obtain ⟨nd, k1, nd', k2, k3⟩ := e3 i hi
         exact ⟨nd', k2, nd, k1, k3⟩
        let g : Nat → List D := fun i => if hi : i < t.l.length then Classical.choose (hch i hi) else []
        have hg : ∀ i (hi : i < t.l.length), HoldP ver tg c sub t.l[i] (g i) ∧ ∃ nd, dss[i]? = some nd ∧ Imp nd (g i) := by
         intro i hi
         simp only [g, dif_pos hi]
         exact Classical.choose_spec (hch i hi)
        refine ⟨dss, (List.range t.l.length).map (fun i => .agg (g i)), e1, e2, by simp, ?_, fun i hi => ⟨g i, by simp [hi], by rw [att_get hi]; exact (hg i hi).1⟩⟩
        refine imp_list (by simp [e2]) (fun i x y hx hy => ?_)
        simp only [List.getElem?_map, Option.map_eq_some_iff] at hx hy
        obtain ⟨nd, hnd, rfl⟩ := hx
        obtain ⟨j, hj, rfl⟩ := hy
        have hi : i < t.l.length := by rw [← e2]; exact (List.getElem?_eq_some_iff.1 hnd).1
        have hji : j = i := by
         rw [List.getElem?_range hi] at hj
         simpa using hj.symm
        subst hji
        obtain ⟨_, nd', hnd', him⟩ := hg j hi
        rw [hnd] at hnd'
        simp only [Option.some.injEq] at hnd'
        subst hnd'
        simp only [elD, if_true]
        refine Imp.one (fun ok w cs hr => ?_)
        simp only [Rep] at hr ⊢
        exact him ok w cs hr
       ·cases g7
      ·simp only [h10, if_false, decide_false] at g4 g5 g6 ⊢
       subst g4
       obtain ⟨⟨h11', h7⟩, hv⟩ := hpr h10
       have hb := isPrim_out g6
       subst hb
       obtain ⟨dss, e1, e2, e3⟩ := rdRow_ok [.prim (rpV of (-1) ver c) 0] (litsD dfl) (wVal of c false (wPart ver c sub)) (fun x nd => ∃ e, nd = [e] ∧ Imp [e] [valK of (-1) x]) t.l (fun x hx s => by
        obtain ⟨nd, d, k1, k2, k3, k4, k5, k6⟩ := rdP_ok of (-1) ver c x (wPart ver c sub) s (hv x hx) (by omega) h10
        have hd : d = valK of (-1) x ∨ of = 9 := by
         unfold HoldV at k4
         split at k4
         ·rename_i hh; exact .inr hh.1
         ·exact .inl k4
        have hnd := k6 h7
        simp only [rdAs_one, rdA]
        have e : (x.nul && decide ((0 : Int) ≤ -1) && decide ((-1 : Int) ≤ ver)) = false := by simp
        rw [e] at k1
        rw [k1]
        simp only [Option.bind_some]
        have hput := putD_in (a := []) (m := litsD dfl) (b := []) (new := nd) (fun d hd => by cases hd) (unit_pos (unit_lits _)) (by rw [g5, k2]; simp [shE, h10])
        simp only [D.widths, List.nil_append, List.append_nil] at hput
        rw [hput]
        refine ⟨nd, rfl, ?_⟩
        rcases hd with hd | hd
        ·exact ⟨_, hnd, by rw [hd]; exact Imp.refl _⟩
        ·subst hd
         have : rdP (rpV 9 (-1) ver c) (wVal 9 c false (wPart ver c sub) x ++ s) = some ([.sl false (x.s.map byteD)], s) := by
          have hs := hv x hx (.inr rfl)
          have hwh := whole_of hs
          have er : rpV 9 (-1) ver c = (if c then .cbytes else .bytes) := by simp [rpV]
          rw [er]
          cases c
          ·simp only [wVal, counted]
           simp [rdP, hwh]
           rw [intP_be .i32 4 32 rfl rfl]
           have hw : IntKind.i32.wrap (x.s.length : Int) = x.s.length := by rw [IntKind.wrap_i32]; omega
           simp only [Option.bind_some, hw]
           rw [if_neg (by omega), spanP_app _ _ _ rfl]; rfl
          ·simp only [wVal, counted]
           simp [rdP, hwh]
           rw [uvarP_uvar _ _ (by omega)]
           simp only [Option.bind_some]
           rw [if_neg (by omega), spanP_app _ _ _ (by omega)]; rfl
         rw [this] at k1
         simp only [Option.some.injEq, Prod.mk.injEq, and_true] at k1
         refine ⟨_, k1.symm, ?_⟩
         rw [show valK 9 (-1) x = .sq (x.s.map byteD) by simp [valK]]
         exact imp_slsq rfl (Imp.refl _)) s
       refine ⟨dss, t.l.map (valK of (-1)), e1, e2, by simp, ?_, rfl⟩
       refine imp_list (by simp [e2]) (fun i x y hx hy => ?_)
       simp only [List.getElem?_map, Option.map_eq_some_iff] at hx hy
       obtain ⟨nd, hnd, rfl⟩ := hx
       obtain ⟨z, hz, rfl⟩ := hy
       have hi : i < t.l.length := (List.getElem?_eq_some_iff.1 hz).1
       obtain ⟨nd', h1, h2⟩ := e3 i hi
       rw [hnd] at h1
       simp only [Option.some.injEq] at h1
       subst h1
       rw [List.getElem?_eq_getElem hi] at hz
       simp only [Option.some.injEq] at hz
       subst hz
       obtain ⟨e, rfl, h2⟩ := h2
       simp only [elD, Bool.false_eq_true, if_false]
       exact h2
     have hpos : ∀ x ∈ t.l, 1 ≤ (wVal of c false (wPart ver c sub) x).length := by
      intro x hx
      by_cases h10 : of = 10
      ·simp only [h10, if_true, Bool.and_eq_true] at g6
       have := wPart_pos ver c sub x g6.1
       simpa [h10, wVal] using this
      ·exact wVal_pos _ _ _ _ _ h10
     have hfl := flatMap_len (wVal of c false (wPart ver c sub)) t.l hpos
     intro pre mid post s hsh hpre hmid hw
     have shx : shF tg (.mk 11 fr upto nul tag df of sub) = [.sl] := by simp [shF]
     rw [shx] at hsh ⊢
     obtain ⟨dss, els, e1, e2, e3, e4, e5⟩ := hel s
     obtain ⟨nulb, hnb⟩ : ∃ nulb, (t.nul && decide (0 ≤ nul) && decide (nul ≤ ver)) = nulb := ⟨_, rfl⟩
     rw [hnb]
     have hput : ∀ d : D, shD d = [.sl] → putD (pre ++ mid ++ post) o [d] = some (pre ++ [d] ++ post) := by
      intro d hd
      subst hw
      exact putD_in (unit_pos hpre) (unit_pos hmid) (by rw [hsh]; simp [shDs, hd])
     have fin : ∀ d d', rowP c nb st dfl body ((counted c nulb (if nulb then [] else things t.l).length 4 ++ (if nulb then [] else things t.l).flatMap (wVal of c false (wPart ver c sub))) ++ s) = some (d, s) → shD d = [.sl] → shD d' = [.sl] → d.width = 1 → d'.width = 1 → HoldF ver tg c (.mk 11 fr upto nul tag df of sub) t [d'] → Imp [d] [d'] →
       ∃ new new', rdAs (.row c nb o st dfl body :: rr) (pre ++ mid ++ post) ((counted c nulb (if nulb then [] else things t.l).length 4 ++ (if nulb then [] else things t.l).flatMap (wVal of c false (wPart ver c sub))) ++ s) = rdAs rr (pre ++ new ++ post) s ∧ shDs new = [.sl] ∧ unit new ∧ HoldF ver tg c (.mk 11 fr upto nul tag df of sub) t new' ∧ shDs new' = [.sl] ∧ pos new' ∧ Imp new new' := by
      intro d d' k1 k2 k3 k4 k5 k6 k7
      refine ⟨[d], [d'], ?_, by simp [shDs, k2], fun x hx => by simp at hx; subst hx; exact k4, k6, by simp [shDs, k3], fun x hx => by simp at hx; subst hx; rw [k5]; omega, k7⟩
      simp only [rdAs]
      rw [rdA_row, k1]
      simp only [Option.bind_some]
      rw [hput d k2]
      rfl
     cases nulb with
     | true =>
      simp only [Bool.and_eq_true, decide_eq_true_eq] at hnb
      have hnbt : nb = true := by rw [g2]; simp [hnb.1.2, hnb.2]
      refine fin (.sl true []) (.sl true []) ?_ rfl rfl rfl rfl ((hH _).2 ⟨_, rfl, .inl ⟨hnb.1.2, hnb.1.1, rfl⟩⟩) (Imp.refl _)
      simp only [if_true, List.length_nil, List.flatMap_nil, List.append_nil]
      rw [rowP, lenP_ok c true 0 s (by omega) (.inl rfl)]
      simp [rdRow, hnbt]
     | false =>
      have hnn : ¬ (0 ≤ nul ∧ t.nul = true) := by
       rintro ⟨a1, a2⟩
       have a3 := hnul a1 a2
       rw [a2] at hnb
       simp [a1, a3] at hnb
      have hrow : rowP c nb st dfl body ((counted c false t.l.length 4 ++ t.l.flatMap (wVal of c false (wPart ver c sub))) ++ s) = some (if nb then .sl false (dss.map (elD st)) else .sl (decide ((t.l.length : Int) ≤ 0)) (dss.map (elD st)), s) := by
       rw [rowP, List.append_assoc, lenP_ok c false t.l.length _ hlen (.inr (by rw [List.length_append]; omega))]
       simp only [Bool.false_eq_true, if_false, Option.bind_some, Int.toNat_natCast]
       rw [e1]
       simp only [Option.map_some]
       rw [if_neg (by omega : ¬ ((t.l.length : Int) < 0))]
      have hlm : (dss.map (elD st)).length = els.length := by simp [e2, e3]
      simp only [Bool.false_eq_true, if_false, hth] at fin ⊢
      cases hnb2 : nb with
      | true =>
       rw [hnb2] at hrow
       rw [hnb2] at fin
       exact fin _ (.sl false els) hrow rfl rfl rfl rfl ((hH _).2 ⟨_, rfl, .inr ⟨hnn, rfl, rfl, false, els, rfl, fun _ _ => rfl, e3, e5⟩⟩) (imp_sl hlm e4)
      | false =>
       rw [hnb2] at hrow g2
       rw [hnb2] at fin
       refine fin _ (.sq els) hrow rfl rfl rfl rfl ((hH _).2 ⟨_, rfl, .inr ⟨hnn, rfl, rfl, false, els, rfl, fun a1 a2 => ?_, e3, e5⟩⟩) (imp_slsq hlm e4)
       simp [a1, a2] at g2
   ·cases h
  ·simp only [h11, if_false] at h hfit hH ⊢
   by_cases h10 : kind = 10
   ·simp only [h10, if_true] at h hfit hH ⊢
    by_cases hn : 0 ≤ nul
    ·simp only [hn, if_true] at h
     cases h
    ·simp only [hn, if_false, and_false] at h hH ⊢
     split at h
     ·rename_i r1 hr1
      have hR := reads_part htg (mFs_ok ver tg flex htg sub a r1 off hr1 0 t hfit.1) h hfit
      have es : shF tg (.mk 10 fr upto nul tag df of sub) = shP tg sub := by simp [shF, hn, shP]
      rw [es]
      simp only [wVal]
      exact hR.weak (fun ds hd => (hH ds).2 hd)
     ·cases h
   ·simp only [h10, if_false, false_and] at h hfit hH ⊢
    split at h
    ·rename_i p o rr
     cases hb : rpEq p (rpV kind nul ver flex) && Nat.beq o off with
     | false => rw [hb] at h; cases h
     | true =>
      rw [hb] at h
      simp only [cond_true, Option.some.injEq] at h
      subst h
      rw [Bool.and_eq_true] at hb
      have := rpEq_out hb.1; subst this
      have := beq_out hb.2; subst this
      have es : shF tg (.mk kind fr upto nul tag df of sub) = shV kind nul := by simp [shF, h11, h10]
      rw [es]
      intro pre mid post s hsh hpre hmid hw
      obtain ⟨nd, d, k1, k2, k3, k4, k5, _⟩ := rdP_ok kind nul ver flex t (wPart ver flex sub) s hfit hnul h10
      have hsd : shDs [d] = shV kind nul := by
       unfold HoldV at k4
       split at k4
       ·rename_i hh
        rw [hh.1]
        simp [shDs, k4.2.1, shV]
       ·rw [k4]; simp only [shDs, List.append_nil, sh_valK]
      refine ⟨nd, [d], ?_, k2, k3, (hH _).2 ⟨d, rfl, k4⟩, hsd, fun x hx => ?_, k5⟩
      ·simp only [rdAs, rdA]
       rw [k1]
       simp only [Option.bind_some]
       subst hw
       rw [putD_in (unit_pos hpre) (unit_pos hmid) (by rw [hsh, k2])]
       rfl
      ·simp at hx; subst hx
       have h1 : (shDs [x]).length = (shV kind nul).length := by rw [hsd]
       rw [shs_width] at h1
       simp only [D.widths, Nat.add_zero] at h1
       rw [h1]
       unfold shV
       repeat' split
       all_goals simp
    ·cases h
theorem mFs_ok (ver : Int) (tg flex : Bool) (htg : flex = true → tg = true) : ∀ (fs : List Fld) (a r : List Ra) (off : Nat), mFs ver tg flex off fs a = some r → ∀ i t, FitFs ver fs i t → Reads ver tg flex (shFs tg fs) (HoldFs ver tg flex fs i t) a r off (wFs ver flex fs i t)
 | [], a, r, off, h, i, t, hfit => by
  simp only [mFs, Option.some.injEq] at h
  subst h
  intro pre mid post s hsh hpre hmid hw
  have : mid = [] := by
   have := unit_len hmid
   rw [hsh] at this
   exact List.length_eq_zero_iff.1 this.symm
  subst this
  exact ⟨[], [], by simp [wFs], rfl, hmid, by simp [HoldFs], rfl, (fun d hd => by cases hd), Imp.refl _⟩
 | f :: fs, a, r, off, h, i, t, hfit => by
  simp only [mFs] at h
  simp only [FitFs] at hfit
  obtain ⟨htag, hff, hrest⟩ := hfit
  split at h
  ·rename_i b hb
   have h2 := mFs_ok ver tg flex htg fs b r (off + (shF tg f).length) h (i + 1) t hrest
   have key : Reads ver tg flex (shF tg f) (fun ds => f.has ver = true → HoldF ver tg flex f (att t i) ds) a b off (if f.tag < 0 ∧ f.has ver = true then wField ver flex f (att t i) else []) := by
    by_cases hx : f.has ver = true
    ·rw [if_pos hx] at hb
     rw [if_pos ⟨htag, hx⟩]
     exact (mF_ok ver tg flex htg f a b off hb (att t i) (hff hx)).weak (fun ds hd _ => hd)
    ·rw [if_neg hx] at hb
     rw [if_neg (fun e => hx e.2)]
     simp only [Option.some.injEq] at hb
     subst hb
     intro pre mid post s hsh hpre hmid hw
     exact ⟨mid, mid, by simp, hsh, hmid, fun e => absurd e hx, hsh, unit_pos hmid, Imp.refl _⟩
   have := reads_app key h2
   simp only [wFs, shFs]
   exact this.weak (fun ds ⟨x, y, e1, e2, e3, e4, e5⟩ => by simp only [HoldFs]; exact ⟨x, y, e1, e4, e5, e2, e3⟩)
  ·cases h
end
theorem mP_ok {ver : Int} {tg flex : Bool} (htg : flex = true → tg = true) {fs : List Fld} {a r : List Ra} {off : Nat} (h : mP ver tg flex off fs a = some r) {t : Tree} (hf : FitT ver fs t) : Reads ver tg flex (shP tg fs) (HoldP ver tg flex fs t) a r off (wPart ver flex fs t) := by
 unfold mP at h
 split at h
 ·rename_i b hb
  exact reads_part htg (mFs_ok ver tg flex htg fs a b off hb 0 t hf.1) h hf
 ·cases h
end Go.Proofs.YtlmnaffhadeolaaGreatDoor

namespace Go.Proofs.YtlmnaffhadeolaaGreatDoor
open Go Go.RowKit
def isVer (ver : Int) (v : Value) : Bool := match v with
 | .int .i16 n => decide (n = ver) && decide (IntKind.i16.wrap n = n)
 | _ => false
def headVer (ver : Int) : List Value → Bool
 | v :: _ => isVer ver v
 | [] => false
def readOk (P : Program) (K : Kr) (f : Nat) (ver : Int) (tg flex : Bool) (fs : List Fld) (cs : List Value) : Bool := match readF P K f cs with
 | some x => headVer ver x.1 && decide (shDs (litsD x.1) = .int .i16 :: shP tg fs) && endsA (mP ver tg flex 1 fs x.2)
 | none => false
where endsA : Option (List Ra) → Bool
 | some [] => true
 | _ => false
theorem read_ok {P : Program} {K : Kr} {g : Nat} {ev : Value} {w : World} (hK : KrOk P K g ev) (hT : KrTy P K) {f : Nat} {ver : Int} {tg flex : Bool} (htg : flex = true → tg = true) {fs : List Fld} {cs : List Value} (h : readOk P K f ver tg flex fs cs = true) {t : Tree} (hf : FitT ver fs t)
  {b sb : Nat} {e : TypeId} {v : Value} (hb : Box w b cs e) (hv : SrcAt w sb v (wPart ver flex fs t)) (hsb : sb < w.heap.size) (hne : b ≠ sb) (hg : w.cell? ⟨g, 0, none⟩ = some ev) (hgb : g ≠ b) (hgl : g < w.heap.size) :
  isFn P f = true ∧ Calls P f #[.pointer (some ⟨b, 0, none⟩), v, .bool false] w fun en w' => en = .returned .nilIface ∧ ∃ cs' lo new, w.heap.size ≤ lo ∧ Box w' b cs' e ∧ Reps (Dk sb lo w') w' (.lit (.int .i16 ver) :: new) cs' ∧ HoldP ver tg flex fs t new ∧ Chg (fun j => j = b ∨ w.heap.size ≤ j) w w' := by
 unfold readOk at h
 split at h
 ·rename_i x hx
  simp only [Bool.and_eq_true, decide_eq_true_eq] at h
  obtain ⟨⟨h1, h2⟩, h3⟩ := h
  have hm : mP ver tg flex 1 fs x.2 = some [] := by
   unfold readOk.endsA at h3
   split at h3
   ·assumption
   ·cases h3
  obtain ⟨rest, hdfl⟩ : ∃ rest, x.1 = .int .i16 ver :: rest := by
   unfold headVer at h1
   split at h1
   ·rename_i v0 r hx1
    unfold isVer at h1
    split at h1
    ·rename_i n
     simp only [Bool.and_eq_true, decide_eq_true_eq] at h1
     exact ⟨r, by rw [hx1, h1.1]⟩
    ·cases h1
   ·cases h1
  have hlit : litsD x.1 = .lit (.int .i16 ver) :: litsD rest := by rw [hdfl]; rfl
  have hsh : shDs (litsD rest) = shP tg fs := by
   rw [hlit] at h2
   simp only [shDs, shD] at h2
   split at h2
   ·simpa using h2
   ·simp at h2
  obtain ⟨new, new', k1, k2, k3, k4, k5, k6, k7⟩ := mP_ok htg hm hf [.lit (.int .i16 ver)] (litsD rest) [] [] hsh (unit_lits [_]) (unit_lits _) rfl
  simp only [List.append_nil, List.cons_append, List.nil_append] at k1
  have hs : rdAs x.2 (litsD x.1) (wPart ver flex fs t) = some (.lit (.int .i16 ver) :: new, []) := by
   rw [hlit, k1]; simp [rdAs]
  obtain ⟨r1, r2⟩ := readF_ok hK hT (dfl := x.1) (acts := x.2) hx hb hv hsb hne hg hgb hgl hs
  refine ⟨r1, r2.mono (fun en w' he => ?_)⟩
  obtain ⟨e1, cs', lo, e2, e3, e4, e5, e6⟩ := he
  exact ⟨e1, cs', lo, new', e2, e3, Imp.app (Imp.refl [.lit (.int .i16 ver)]) k7 _ _ _ e4, k4, e6⟩
 ·cases h
end Go.Proofs.YtlmnaffhadeolaaGreatDoor

namespace Go.Proofs.YtlmnaffhadeolaaGreatDoor
open Go Go.RowKit
mutual
def tabF (ver : Int) : Fld → Bool
 | .mk kind _ _ _ _ _ of sub => (if kind = 11 then (if of = 10 then tabFs ver sub else !decide (of = 11) && !decide (of = 7)) else if kind = 10 then tabFs ver sub else true)
def tabFs (ver : Int) : List Fld → Bool
 | [] => true
 | f :: fs => decide (f.tag < 0) && (!f.has ver || tabF ver f) && tabFs ver fs
end
theorem att_fitL (ver : Int) : ∀ (fs : List Fld) (i0 : Nat) (t t' : Tree) (k : Nat), (∀ j, j < fs.length → att t' (k + j) = (fitL ver fs i0 t).getD j Tree.none) → ∀ j (h : j < fs.length), att t' (k + j) = fitF ver fs[j] (att t (i0 + j)) := by
 intro fs i0 t t' k h j hj
 rw [h j hj, List.getD_eq_getElem?_getD, List.getElem?_eq_getElem (by rw [fitL_length]; exact hj)]
 simp only [Option.getD_some]
 exact fitL_get ver fs i0 t j hj
theorem att_fitP (ver : Int) (fs : List Fld) (t : Tree) (j : Nat) (h : j < fs.length) : att (fitP ver fs t) j = fitF ver fs[j] (att t j) := by
 have := att_fitL ver fs 0 t (fitP ver fs t) 0 (fun j hj => by simp [fitP, att, Tree.l]) j h
 simpa using this
theorem withNull_att (b : Bool) (t : Tree) (i : Nat) : att (t.withNull b) i = att t i := by cases t; rfl
theorem withNull_u (b : Bool) (t : Tree) : (t.withNull b).u = t.u := by cases t; rfl
theorem withNull_nul (b : Bool) (t : Tree) : (t.withNull b).nul = b := by cases t; rfl
theorem wFs_congr (ver : Int) (flex : Bool) : ∀ (fs : List Fld) (i k : Nat) (t t' : Tree), (∀ j (h : j < fs.length), fs[j].has ver = true → wField ver flex fs[j] (att t' (k + j)) = wField ver flex fs[j] (att t (i + j))) → wFs ver flex fs k t' = wFs ver flex fs i t
 | [], _, _, _, _, _ => by simp [wFs]
 | f :: fs, i, k, t, t', h => by
  simp only [wFs]
  have h0 := h 0 (by simp)
  simp only [List.getElem_cons_zero, Nat.add_zero] at h0
  have e : (if f.tag < 0 ∧ f.has ver = true then wField ver flex f (att t' k) else []) = (if f.tag < 0 ∧ f.has ver = true then wField ver flex f (att t i) else []) := by
   split
   ·rename_i hh; rw [h0 hh.2]
   ·rfl
  rw [e]
  congr 1
  exact wFs_congr ver flex fs (i + 1) (k + 1) t t' (fun j hj hh => by
   have := h (j + 1) (by simpa using hj)
   simp only [List.getElem_cons_succ] at this
   rw [show k + 1 + j = k + (j + 1) by omega, show i + 1 + j = i + (j + 1) by omega]
   exact this hh)
theorem known_zero {fs : List Fld} (h : ∀ f ∈ fs, f.tag < 0) : known fs = 0 := known_none fs 0 h
theorem tab_tags {ver : Int} : ∀ {fs : List Fld}, tabFs ver fs = true → ∀ f ∈ fs, f.tag < 0
 | [], _, f, hf => by cases hf
 | g :: fs, h, f, hf => by
  simp only [tabFs, Bool.and_eq_true, decide_eq_true_eq] at h
  rcases List.mem_cons.1 hf with rfl | hm
  ·exact h.1.1
  ·exact tab_tags h.2 f hm
theorem putTag_end (k : Nat) (v : List UInt8) : ∀ (u : List (Nat × List UInt8)), (∀ kv ∈ u, kv.1 < k) → putTag k v u = u ++ [(k, v)]
 | [], _ => rfl
 | x :: u, h => by
  have := h x (by simp)
  simp only [putTag, if_pos this, putTag_end k v u (fun y hy => h y (by simp [hy])), List.cons_append]
theorem fold_rising : ∀ (u acc : List (Nat × List UInt8)), Rising (acc ++ u) → u.foldl (fun out kv => if kv.1 < 0 then out else putTag kv.1 kv.2 out) acc = acc ++ u
 | [], acc, _ => by simp
 | x :: u, acc, h => by
  simp only [List.foldl_cons, Nat.not_lt_zero, if_false]
  rw [putTag_end x.1 x.2 acc (fun kv hkv => (List.pairwise_append.1 h).2.2 kv hkv x (by simp))]
  have ih := fold_rising u (acc ++ [x]) (by simpa [List.append_assoc] using h)
  simp only [Nat.not_lt_zero, if_false] at ih
  rw [ih]; simp
theorem unknown_self {fs : List Fld} {u : List (Nat × List UInt8)} (hk : known fs = 0) (hr : Rising u) (hl : u.length ≤ Most) : unknown fs u = u := by
 unfold unknown
 rw [List.take_of_length_le hl, hk]
 have := fold_rising u [] (by simpa using hr)
 simpa using this
theorem putTag_len (k : Nat) (v : List UInt8) : ∀ (u : List (Nat × List UInt8)), (putTag k v u).length ≤ u.length + 1
 | [] => by simp [putTag]
 | x :: u => by
  simp only [putTag]
  have := putTag_len k v u
  split
  ·simp; omega
  ·split <;> simp
theorem unknownLen (fs : List Fld) (u : List (Nat × List UInt8)) : (unknown fs u).length ≤ Most := by
 unfold unknown
 have : ∀ (l out : List (Nat × List UInt8)), (l.foldl (fun out kv => if kv.1 < known fs then out else putTag kv.1 kv.2 out) out).length ≤ out.length + l.length := by
  intro l
  induction l with
  | nil => intro out; simp
  | cons x l ih =>
   intro out
   simp only [List.foldl_cons, List.length_cons]
   split
   ·have := ih out; omega
   ·have := ih (putTag x.1 x.2 out); have := putTag_len x.1 x.2 out; omega
 have h := this (u.take Most) []
 have : (u.take Most).length ≤ Most := by simp; omega
 simp only [List.length_nil] at h
 omega
theorem whole_whole (s : List UInt8) : whole (whole s) = whole s := by simp [whole, List.take_take]
theorem whole_len (s : List UInt8) : (whole s).length ≤ Most := by simp [whole]; omega
theorem others_rising (fs : List Fld) (u : List (Nat × List UInt8)) : Rising (others fs u) := by
 unfold others Rising
 exact List.pairwise_map.2 (unknown_rising fs u)
theorem others_self {fs : List Fld} (hk : known fs = 0) (u : List (Nat × List UInt8)) : unknown fs (others fs u) = others fs u := unknown_self hk (others_rising fs u) (by simp [others, unknownLen])
theorem allTags_fit {ver : Int} {flex : Bool} {fs : List Fld} (hk : known fs = 0) (t t' : Tree) (h : t'.u = others fs t.u) : allTags ver flex fs t' = allTags ver flex fs t := by
 unfold allTags
 rw [hk, h, others_self hk]
 simp only [List.range_zero, List.flatMap_nil, List.nil_append, others, List.map_map]
 refine List.map_congr_left (fun kv _ => ?_)
 simp [whole_whole]
theorem fitVal_w (kind : Int) (flex : Bool) (p q : Tree → Tree) (wp : Tree → List UInt8) (null : Bool) (t : Tree) (h10 : kind = 10 → wp ((p t).withNull null) = wp t) : wVal kind flex null wp (fitVal kind null p t) = wVal kind flex null wp t := by
 unfold fitVal
 by_cases h8 : kind = 8 ∨ kind = 9
 ·rw [if_pos h8]
  rcases h8 with rfl | rfl <;> simp [wVal, Tree.s, whole_whole]
 ·rw [if_neg h8]
  by_cases h : kind = 10
  ·rw [if_pos h]; subst h; simp only [wVal]; simpa using h10 rfl
  ·rw [if_neg h]
   have h8' : kind ≠ 8 := fun e => h8 (.inl e)
   have h9' : kind ≠ 9 := fun e => h8 (.inr e)
   simp [wVal, h8', h9', h, Tree.n, Tree.s]
theorem fitVal_nul (kind : Int) (null : Bool) (p : Tree → Tree) (t : Tree) (h : kind = 8 ∨ kind = 9 ∨ kind = 10) : (fitVal kind null p t).nul = null := by
 unfold fitVal
 rcases h with rfl | rfl | rfl
 ·simp [Tree.nul]
 ·simp [Tree.nul]
 ·simp [withNull_nul]
theorem fld_null (kind fr upto nul tag df of : Int) (sub : List Fld) (ver : Int) (t : Tree) : (Fld.mk kind fr upto nul tag df of sub).null ver t = (t.nul && decide (0 ≤ nul) && decide (nul ≤ ver)) := rfl
theorem mk_nul (n : Int) (s : List UInt8) (b : Bool) (l : List Tree) (u : List (Nat × List UInt8)) : (Tree.mk n s b l u).nul = b := rfl
theorem mk_l (n : Int) (s : List UInt8) (b : Bool) (l : List Tree) (u : List (Nat × List UInt8)) : (Tree.mk n s b l u).l = l := rfl
theorem wPart_fit_of {ver : Int} {flex : Bool} {fs : List Fld} (ht : ∀ f ∈ fs, f.tag < 0) (h : ∀ j (hj : j < fs.length), fs[j].has ver = true → ∀ x, wField ver flex fs[j] (fitF ver fs[j] x) = wField ver flex fs[j] x) (t : Tree) (b : Bool) :
  wPart ver flex fs ((fitP ver fs t).withNull b) = wPart ver flex fs t := by
 unfold wPart
 have e1 : wFs ver flex fs 0 ((fitP ver fs t).withNull b) = wFs ver flex fs 0 t := wFs_congr ver flex fs 0 0 t _ (fun j hj hh => by
  rw [withNull_att]
  simp only [Nat.zero_add]
  rw [att_fitP ver fs t j hj]
  exact h j hj hh _)
 rw [e1, allTags_fit (known_zero ht) t _ (by rw [withNull_u]; rfl)]
mutual
theorem wField_fit (ver : Int) (flex : Bool) : ∀ (f : Fld), f.tag < 0 → tabF ver f = true → ∀ x, wField ver flex f (fitF ver f x) = wField ver flex f x
 | .mk kind fr upto nul tag df of sub, htag, htab, x => by
  have htag' : ¬ (0 ≤ tag) := by have : tag < 0 := htag; omega
  simp only [tabF] at htab
  rw [fitF_eq]
  rw [fld_null]
  simp only [Fld.kind, Fld.tag, Fld.of, Fld.sub]
  by_cases h11 : kind = 11
  ·simp only [h11, if_true] at htab ⊢
   rw [wField_mk ver flex 11 fr upto nul tag df of sub _ _ rfl, wField_mk ver flex 11 fr upto nul tag df of sub x _ rfl]
   simp only [htag', decide_false, Bool.false_and, Bool.or_false, mk_nul, mk_l, if_true]
   have en : (x.nul && decide (0 ≤ nul) && decide (nul ≤ ver) && decide (0 ≤ nul) && decide (nul ≤ ver)) = (x.nul && decide (0 ≤ nul) && decide (nul ≤ ver)) := by
    cases x.nul <;> cases decide (0 ≤ nul) <;> cases decide (nul ≤ ver) <;> rfl
   rw [en]
   have el : things ((things x.l).map (fitVal of false (fitP ver sub))) = (things x.l).map (fitVal of false (fitP ver sub)) := things_of (by simp [things]; omega)
   rw [el]
   generalize (x.nul && decide (0 ≤ nul) && decide (nul ≤ ver)) = nb
   cases nb with
   | true => rfl
   | false =>
    simp only [Bool.false_eq_true, if_false, List.length_map, List.flatMap_map]
    congr 1
    refine congrArg (fun g => (things x.l).flatMap g) (funext fun y => ?_)
    refine fitVal_w of flex _ (fitP ver sub) _ false y (fun h10 => ?_)
    rw [if_pos h10] at htab
    exact wFsub_fit ver flex sub htab y false
  ·simp only [h11, if_false] at htab ⊢
   rw [wField_mk ver flex kind fr upto nul tag df of sub _ _ rfl, wField_mk ver flex kind fr upto nul tag df of sub x _ rfl]
   simp only [h11, if_false]
   by_cases h10 : kind = 10
   ·simp only [h10, if_true] at htab
    subst h10
    rw [fitVal_nul 10 _ _ _ (.inr (.inr rfl))]
    have en : (x.nul && decide (0 ≤ nul) && decide (nul ≤ ver) && decide (0 ≤ nul) && decide (nul ≤ ver)) = (x.nul && decide (0 ≤ nul) && decide (nul ≤ ver)) := by
     cases x.nul <;> cases decide (0 ≤ nul) <;> cases decide (nul ≤ ver) <;> rfl
    rw [en]
    have ew : wPart ver flex sub (fitVal 10 (x.nul && decide (0 ≤ nul) && decide (nul ≤ ver)) (fitP ver sub) x) = wPart ver flex sub x := by
     simp only [fitVal]
     exact wFsub_fit ver flex sub htab x _
    simp only [wVal, ew]
    rfl
   ·simp only [h10, false_and, if_false]
    by_cases h89 : kind = 8 ∨ kind = 9
    ·rw [fitVal_nul kind _ _ _ (by rcases h89 with h | h; exact .inl h; exact .inr (.inl h))]
     have en : (x.nul && decide (0 ≤ nul) && decide (nul ≤ ver) && decide (0 ≤ nul) && decide (nul ≤ ver)) = (x.nul && decide (0 ≤ nul) && decide (nul ≤ ver)) := by
      cases x.nul <;> cases decide (0 ≤ nul) <;> cases decide (nul ≤ ver) <;> rfl
     rw [en]
     exact fitVal_w kind flex _ (fitP ver sub) _ _ x (fun h => absurd h h10)
    ·have a8 : kind ≠ 8 := fun e => h89 (.inl e)
     have a9 : kind ≠ 9 := fun e => h89 (.inr e)
     simp [fitVal, wVal, a8, a9, h10, Tree.n, Tree.s]
theorem wFsub_fit (ver : Int) (flex : Bool) : ∀ (fs : List Fld), tabFs ver fs = true → ∀ (t : Tree) (b : Bool), wPart ver flex fs ((fitP ver fs t).withNull b) = wPart ver flex fs t
 | fs, h, t, b => wPart_fit_of (tab_tags h) (wEach_fit ver flex fs h) t b
theorem wEach_fit (ver : Int) (flex : Bool) : ∀ (fs : List Fld), tabFs ver fs = true → ∀ j (hj : j < fs.length), fs[j].has ver = true → ∀ x, wField ver flex fs[j] (fitF ver fs[j] x) = wField ver flex fs[j] x
 | [], _, j, hj, _ => by cases hj
 | f :: fs, h, j, hj, hh => by
  simp only [tabFs, Bool.and_eq_true, Bool.or_eq_true, Bool.not_eq_true', decide_eq_true_eq] at h
  cases j with
  | zero =>
   intro x
   simp only [List.getElem_cons_zero] at hh ⊢
   refine wField_fit ver flex f h.1.1 ?_ x
   rcases h.1.2 with h1 | h1
   ·rw [hh] at h1; cases h1
   ·exact h1
  | succ j => exact wEach_fit ver flex fs h.2 j (by simpa using hj) hh
end
end Go.Proofs.YtlmnaffhadeolaaGreatDoor

namespace Go.Proofs.YtlmnaffhadeolaaGreatDoor
mutual
def Tree.ok : Tree → Prop
 | .mk n s _ l u => s.length ≤ 9223372036854775807 ∧ (∀ kv ∈ u, kv.1 < 4294967296) ∧ Tree.oks l ∧ (-9223372036854775808 ≤ n ∧ n ≤ 9223372036854775807)
def Tree.oks : List Tree → Prop
 | [] => True
 | t :: l => t.ok ∧ Tree.oks l
end
mutual
def Fld.okb : Fld → Bool
 | .mk _ _ _ _ tag _ of sub => decide (tag < 2147483647) && decide (of ≠ 11) && Nat.ble sub.length 1000 && Fld.oksb sub
def Fld.oksb : List Fld → Bool
 | [] => true
 | f :: l => f.okb && Fld.oksb l
end
theorem Tree.oks_mem : ∀ {l : List Tree}, Tree.oks l → ∀ t ∈ l, t.ok
 | [], _, t, h => by cases h
 | x :: l, h, t, ht => by
  simp only [Tree.oks] at h
  rcases List.mem_cons.1 ht with rfl | h1
  ·exact h.1
  ·exact Tree.oks_mem h.2 t h1
theorem Tree.ok_none : Tree.none.ok := by simp [Tree.none, Tree.ok, Tree.oks]
theorem Tree.ok.at {t : Tree} (h : t.ok) (i : Nat) : (att t i).ok := by
 cases t with
 | mk n s nul l u =>
  simp only [Tree.ok] at h
  unfold att
  by_cases hi : i < l.length
  ·have : (Tree.mk n s nul l u).l.getD i Tree.none = l[i] := by simp [Tree.l, hi]
   rw [this]; exact Tree.oks_mem h.2.2.1 _ (List.getElem_mem _)
  ·have : (Tree.mk n s nul l u).l.getD i Tree.none = Tree.none := by simp [Tree.l, List.getD, List.getElem?_eq_none (by omega : l.length ≤ i)]
   rw [this]; exact Tree.ok_none
theorem Tree.ok.s {t : Tree} (h : t.ok) : t.s.length ≤ 9223372036854775807 := by cases t; simp only [Tree.ok] at h; exact h.1
theorem Tree.ok.u {t : Tree} (h : t.ok) : ∀ kv ∈ t.u, kv.1 < 4294967296 := by cases t; simp only [Tree.ok] at h; exact h.2.1
theorem Tree.ok.l {t : Tree} (h : t.ok) : ∀ x ∈ t.l, x.ok := by cases t; simp only [Tree.ok] at h; exact Tree.oks_mem h.2.2.1
theorem Tree.ok.n {t : Tree} (h : t.ok) : -9223372036854775808 ≤ t.n ∧ t.n ≤ 9223372036854775807 := by cases t; simp only [Tree.ok] at h; exact h.2.2.2
mutual
def Tree.small : Tree → Prop
 | .mk _ _ _ l u => (l.length ≤ 1000000000 ∧ u.length ≤ 1000000000) ∧ Tree.smalls l
def Tree.smalls : List Tree → Prop
 | [] => True
 | t :: l => t.small ∧ Tree.smalls l
end
theorem Tree.smalls_mem : ∀ {l : List Tree}, Tree.smalls l → ∀ t ∈ l, t.small
 | [], _, t, h => by cases h
 | x :: l, h, t, ht => by
  simp only [Tree.smalls] at h
  rcases List.mem_cons.1 ht with rfl | h1
  ·exact h.1
  ·exact Tree.smalls_mem h.2 t h1
theorem Tree.small.lens {t : Tree} (h : t.small) : t.l.length ≤ 1000000000 ∧ t.u.length ≤ 1000000000 := by cases t; simp only [Tree.small] at h; exact h.1
theorem Tree.small.l {t : Tree} (h : t.small) : ∀ x ∈ t.l, x.small := by cases t; simp only [Tree.small] at h; exact Tree.smalls_mem h.2
theorem Fld.oksb_mem : ∀ {l : List Fld}, Fld.oksb l = true → ∀ f ∈ l, f.okb = true
 | [], _, t, h => by cases h
 | x :: l, h, t, ht => by
  simp only [Fld.oksb, Bool.and_eq_true] at h
  rcases List.mem_cons.1 ht with rfl | h1
  ·exact h.1
  ·exact Fld.oksb_mem h.2 t h1
theorem Fld.okb_tag {f : Fld} (h : f.okb = true) : f.tag < 2147483647 := by
 cases f; simp only [Fld.okb, Bool.and_eq_true, decide_eq_true_eq] at h; exact h.1.1.1
theorem Fld.okb_sub {f : Fld} (h : f.okb = true) : Fld.oksb f.sub = true ∧ f.sub.length ≤ 1000 := by
 cases f; simp only [Fld.okb, Bool.and_eq_true, decide_eq_true_eq] at h; exact ⟨h.2, Nat.le_of_ble_eq_true h.1.2⟩
def fsok (fs : List Fld) : Bool := Fld.oksb fs && Nat.ble fs.length 1000
theorem fsok.sub {f : Fld} (h : f.okb = true) : fsok f.sub = true := by
 have := Fld.okb_sub h
 simp only [fsok, Bool.and_eq_true]
 exact ⟨this.1, Nat.ble_eq_true_of_le this.2⟩
theorem fsok.mem {fs : List Fld} (h : fsok fs = true) : ∀ f ∈ fs, f.okb = true := by
 simp only [fsok, Bool.and_eq_true] at h; exact Fld.oksb_mem h.1
theorem fsok.len {fs : List Fld} (h : fsok fs = true) : fs.length ≤ 1000 := by
 simp only [fsok, Bool.and_eq_true] at h; exact Nat.le_of_ble_eq_true h.2
theorem fsok.tag {fs : List Fld} (h : fsok fs = true) : ∀ f ∈ fs, f.tag < 2147483647 := fun f hf => Fld.okb_tag (fsok.mem h f hf)
end Go.Proofs.YtlmnaffhadeolaaGreatDoor

namespace Go.Proofs.YtlmnaffhadeolaaGreatDoor
open Go Go.RowKit
theorem fitU_fit {fs : List Fld} (hk : known fs = 0) {t t' : Tree} (ho : ∀ kv ∈ t.u, kv.1 < 4294967296) (h : t'.u = others fs t.u) : FitU fs t' := by
 have sub : ∀ kv ∈ unknown fs t.u, ∃ x ∈ t.u, x.1 = kv.1 := by
  unfold unknown
  have put : ∀ (k : Nat) (v : List UInt8) (u : List (Nat × List UInt8)), ∀ kv ∈ putTag k v u, kv.1 = k ∨ kv ∈ u := by
   intro k v u
   induction u with
   | nil => intro kv h; simp [putTag] at h; subst h; exact .inl rfl
   | cons x u ih =>
    intro kv h
    simp only [putTag] at h
    split at h
    ·rcases List.mem_cons.1 h with rfl | h
     ·exact .inr (by simp)
     ·rcases ih kv h with h | h
      ·exact .inl h
      ·exact .inr (by simp [h])
    ·split at h
     ·exact .inr h
     ·rcases List.mem_cons.1 h with rfl | h
      ·exact .inl rfl
      ·exact .inr h
  have : ∀ (l out : List (Nat × List UInt8)), ∀ kv ∈ l.foldl (fun out kv => if kv.1 < known fs then out else putTag kv.1 kv.2 out) out, (∃ x ∈ l, x.1 = kv.1) ∨ kv ∈ out := by
   intro l
   induction l with
   | nil => intro out kv h; exact .inr h
   | cons x l ih =>
    intro out kv h
    simp only [List.foldl_cons] at h
    rcases ih _ kv h with ⟨y, hy, e⟩ | h
    ·exact .inl ⟨y, by simp [hy], e⟩
    ·split at h
     ·exact .inr h
     ·rcases put _ _ _ kv h with h | h
      ·exact .inl ⟨x, by simp, h.symm⟩
      ·exact .inr h
  intro kv hkv
  rcases this _ _ kv hkv with ⟨x, hx, e⟩ | h
  ·exact ⟨x, List.mem_of_mem_take hx, e⟩
  ·cases h
 refine ⟨by rw [h, others_self hk], ?_, by rw [h]; simp [others, unknownLen]⟩
 intro kv hkv
 rw [h] at hkv
 simp only [others, List.mem_map] at hkv
 obtain ⟨x, hx, rfl⟩ := hkv
 obtain ⟨y, hy, e⟩ := sub x hx
 have := ho y hy
 exact ⟨by show x.1 < _; omega, whole_len _⟩
theorem fitV_fit (kind : Int) (null : Bool) (p : Tree → Tree) (t : Tree) (h10 : kind ≠ 10) : FitV kind (fitVal kind null p t) := by
 intro h
 unfold fitVal
 rw [if_pos h]
 exact whole_len _
mutual
theorem fitF_ok (ver : Int) : ∀ (f : Fld), f.tag < 0 → tabF ver f = true → ∀ x : Tree, x.ok → FitF ver f (fitF ver f x)
 | .mk kind fr upto nul tag df of sub, htag, htab, x, hx => by
  have htag' : ¬ (0 ≤ tag) := by have : tag < 0 := htag; omega
  simp only [tabF] at htab
  have hnn : ∀ b : Bool, b = (x.nul && decide (0 ≤ nul) && decide (nul ≤ ver)) → b = true → nul ≤ ver := by
   intro b e1 e2
   rw [e1] at e2
   simp only [Bool.and_eq_true, decide_eq_true_eq] at e2
   exact e2.2
  rw [fitF_eq]
  rw [fld_null]
  simp only [Fld.kind, Fld.tag, Fld.of, Fld.sub, FitF]
  by_cases h11 : kind = 11
  ·simp only [h11, if_true] at htab ⊢
   simp only [htag', decide_false, Bool.false_and, Bool.or_false, mk_nul, mk_l]
   refine ⟨fun _ e => hnn _ rfl e, by simp [things]; omega, fun h10 => ?_, fun h10 => ?_⟩
   ·rw [if_pos h10] at htab
    intro y hy
    obtain ⟨z, hz, rfl⟩ := List.mem_map.1 hy
    have hzo := hx.l z (List.mem_of_mem_take hz)
    subst h10
    simp only [fitVal]
    exact ⟨fitPart_ok ver sub htab z hzo false, fitU_fit (known_zero (tab_tags htab)) hzo.u (by show ((fitP ver sub z).withNull false).u = _; rw [withNull_u]; rfl)⟩
   ·rw [if_neg h10] at htab
    simp at htab
    refine ⟨htab, fun y hy => ?_⟩
    obtain ⟨z, hz, rfl⟩ := List.mem_map.1 hy
    exact fitV_fit of false _ z h10
  ·simp only [h11, if_false] at htab ⊢
   by_cases h10 : kind = 10
   ·simp only [h10, if_true] at htab ⊢
    refine ⟨fun _ e => ?_, ?_, ?_⟩
    ·rw [fitVal_nul 10 _ _ _ (.inr (.inr rfl))] at e
     exact hnn _ rfl e
    ·simp only [fitVal]
     exact fitPart_ok ver sub htab x hx _
    ·exact fitU_fit (known_zero (tab_tags htab)) hx.u (by subst h10; show ((fitP ver sub x).withNull _).u = _; rw [withNull_u]; rfl)
   ·simp only [h10, if_false]
    refine ⟨fun _ e => ?_, fitV_fit kind _ _ x h10⟩
    by_cases h89 : kind = 8 ∨ kind = 9
    ·rw [fitVal_nul kind _ _ _ (by rcases h89 with h | h; exact .inl h; exact .inr (.inl h))] at e
     exact hnn _ rfl e
    ·unfold fitVal at e
     rw [if_neg h89, if_neg h10] at e
     cases e
theorem fitPart_ok (ver : Int) : ∀ (fs : List Fld), tabFs ver fs = true → ∀ (t : Tree), t.ok → ∀ b, FitFs ver fs 0 ((fitP ver fs t).withNull b)
 | fs, h, t, ht, b => fitFs_ok ver fs h 0 _ (fun j hj => ⟨att t j, ht.at j, by rw [withNull_att, Nat.zero_add, att_fitP ver fs t j hj]⟩)
theorem fitFs_ok (ver : Int) : ∀ (fs : List Fld), tabFs ver fs = true → ∀ (i : Nat) (t' : Tree), (∀ j (hj : j < fs.length), ∃ x : Tree, x.ok ∧ att t' (i + j) = fitF ver fs[j] x) → FitFs ver fs i t'
 | [], _, _, _, _ => by simp [FitFs]
 | f :: fs, h, i, t', hall => by
  simp only [tabFs, Bool.and_eq_true, Bool.or_eq_true, Bool.not_eq_true', decide_eq_true_eq] at h
  simp only [FitFs]
  refine ⟨h.1.1, fun hh => ?_, fitFs_ok ver fs h.2 (i + 1) t' (fun j hj => ?_)⟩
  ·obtain ⟨x, hx, e⟩ := hall 0 (by simp)
   simp only [Nat.add_zero, List.getElem_cons_zero] at e
   rw [e]
   refine fitF_ok ver f h.1.1 ?_ x hx
   rcases h.1.2 with h1 | h1
   ·rw [hh] at h1; cases h1
   ·exact h1
  ·obtain ⟨x, hx, e⟩ := hall (j + 1) (by simpa using hj)
   exact ⟨x, hx, by rw [show i + 1 + j = i + (j + 1) by omega, e]; simp⟩
end
theorem fitt_ok {ver : Int} {fs : List Fld} (h : tabFs ver fs = true) {t : Tree} (ht : t.ok) (flex : Bool) : FitT ver fs ((fitP ver fs t).withNull false) ∧ wPart ver flex fs ((fitP ver fs t).withNull false) = wPart ver flex fs t :=
 ⟨⟨fitPart_ok ver fs h t ht false, fitU_fit (known_zero (tab_tags h)) ht.u (by rw [withNull_u]; rfl)⟩, wFsub_fit ver flex fs h t false⟩
end Go.Proofs.YtlmnaffhadeolaaGreatDoor

namespace Go.Proofs.YtlmnaffhadeolaaGreatDoor
def tagsW (u : List (Nat × List UInt8)) : Nat := (u.map fun kv => kv.2.length + 1).sum
mutual
def Tree.wt : Tree → Nat
 | .mk _ s _ l u => 1 + s.length + tagsW u + Tree.wts l
def Tree.wts : List Tree → Nat
 | [] => 0
 | t :: l => t.wt + Tree.wts l
end
mutual
def Fld.cost : Fld → Nat
 | .mk _ _ _ _ _ _ _ sub => 60 + ((1 + known sub) * Fld.costs sub + 60)
def Fld.costs : List Fld → Nat
 | [] => 0
 | f :: l => f.cost + 30 + Fld.costs l
end
theorem Tree.wt_pos (t : Tree) : 1 ≤ t.wt := by cases t; simp only [Tree.wt]; omega
theorem wts_mem : ∀ {l : List Tree} {t : Tree}, t ∈ l → t.wt ≤ Tree.wts l
 | x :: l, t, h => by
  simp only [Tree.wts]
  rcases List.mem_cons.1 h with rfl | h1
  ·omega
  ·have := wts_mem h1; omega
theorem wts_take : ∀ (l : List Tree) (n : Nat), Tree.wts (l.take n) ≤ Tree.wts l
 | [], n => by simp
 | x :: l, 0 => by simp [Tree.wts]
 | x :: l, n + 1 => by simp only [List.take_succ_cons, Tree.wts]; have := wts_take l n; omega
theorem att_wt (t : Tree) (i : Nat) : (att t i).wt ≤ t.wt := by
 cases t with
 | mk n s nul l u =>
  unfold att
  by_cases hi : i < l.length
  ·have e : (Tree.mk n s nul l u).l.getD i Tree.none = l[i] := by simp [Tree.l, hi]
   rw [e]
   have := wts_mem (List.getElem_mem hi)
   simp only [Tree.wt]; omega
  ·have e : (Tree.mk n s nul l u).l.getD i Tree.none = Tree.none := by simp [Tree.l, List.getD, List.getElem?_eq_none (by omega : l.length ≤ i)]
   rw [e]
   simp only [Tree.none, Tree.wt, tagsW, Tree.wts]; simp; omega
theorem s_wt (t : Tree) : t.s.length + 1 ≤ t.wt := by cases t; simp only [Tree.wt, Tree.s]; omega
theorem l_wt (t : Tree) : Tree.wts t.l + 1 ≤ t.wt := by cases t; simp only [Tree.wt, Tree.l]; omega
theorem u_wt (t : Tree) : tagsW t.u + 1 ≤ t.wt := by cases t; simp only [Tree.wt, Tree.u]; omega
theorem uvar_le6 (n : Nat) (h : n < 34359738368) : (uvar n).length ≤ 6 := by
 rw [uvar]; split
 ·simp
 ·rw [uvar]; split
  ·simp
  ·rw [uvar]; split
   ·simp
   ·rw [uvar]; split
    ·simp
    ·rw [uvar]; split
     ·simp
     ·omega
theorem be_len : ∀ (k : Nat) (n : Int), (be k n).length = k
 | 0, _ => rfl
 | k + 1, n => by simp only [be, List.length_cons, be_len k n]
theorem counted_le (flex null : Bool) (n size : Nat) (hn : n ≤ 1000000) (hs : size ≤ 8) : (counted flex null n size).length ≤ 8 := by
 unfold counted
 split
 ·split
  ·simp
  ·exact Nat.le_trans (uvar_le6 _ (by omega)) (by omega)
 ·split <;> rw [be_len] <;> exact hs
theorem whole_le (s : List UInt8) : (whole s).length ≤ s.length ∧ (whole s).length ≤ 32767 := by
 unfold whole Most; rw [List.length_take]; omega
theorem width8 (k : Int) : width k ≤ 8 := by
 unfold width
 split
 ·omega
 ·split
  ·omega
  ·split <;> omega
theorem wVal_le (kind : Int) (flex null : Bool) (p : Tree → List UInt8) (t : Tree) (c : Nat) (hp : (p t).length ≤ c * t.wt) : (wVal kind flex null p t).length ≤ (c + 24) * t.wt := by
 have h1 := t.wt_pos
 have hs := s_wt t
 have hw := whole_le t.s
 have hif : (if null then ([] : List UInt8) else whole t.s).length ≤ t.s.length ∧ (if null then ([] : List UInt8) else whole t.s).length ≤ 32767 := by
  cases null
  ·exact hw
  ·simp
 have hmul : (c + 24) * t.wt = c * t.wt + 24 * t.wt := by rw [Nat.add_mul]
 unfold wVal
 split
 ·simp; omega
 ·split
  ·simp only [sixteen, List.length_take]; omega
  ·split
   ·have := counted_le flex null (if null then ([] : List UInt8) else whole t.s).length 2 (by omega) (by omega)
    rw [List.length_append]; omega
   ·split
    ·have := counted_le flex null (if null then ([] : List UInt8) else whole t.s).length 4 (by omega) (by omega)
     rw [List.length_append]; omega
    ·split
     ·omega
     ·rw [be_len]
      have := width8 kind
      omega
def tagsB (l : List (Nat × List UInt8)) : Nat := (l.map fun kv => (wTag kv.1 kv.2).length).sum
theorem tagsB_append (a b : List (Nat × List UInt8)) : tagsB (a ++ b) = tagsB a + tagsB b := by simp [tagsB]
theorem flat_tagsB (l : List (Nat × List UInt8)) : (l.flatMap fun kv => wTag kv.1 kv.2).length = tagsB l := by
 induction l with
 | nil => rfl
 | cons a l ih => simp [tagsB]
theorem tagsW_append (a b : List (Nat × List UInt8)) : tagsW (a ++ b) = tagsW a + tagsW b := by simp [tagsW]
theorem putTag_W (k : Nat) (v : List UInt8) (l : List (Nat × List UInt8)) : tagsW (putTag k v l) ≤ tagsW l + v.length + 1 := by
 induction l with
 | nil => simp [putTag, tagsW]
 | cons a l ih =>
  simp only [putTag]
  split
  ·simp only [tagsW, List.map_cons, List.sum_cons] at *; omega
  ·split
   ·omega
   ·simp only [tagsW, List.map_cons, List.sum_cons]; omega
theorem unknown_W (fs : List Fld) (u : List (Nat × List UInt8)) : tagsW (unknown fs u) ≤ tagsW u := by
 have gen : ∀ (l out : List (Nat × List UInt8)), tagsW (l.foldl (fun out kv => if kv.1 < known fs then out else putTag kv.1 kv.2 out) out) ≤ tagsW out + tagsW l := by
  intro l
  induction l with
  | nil => intro out; simp [tagsW]
  | cons a l ih =>
   intro out
   have h1 := ih (if a.1 < known fs then out else putTag a.1 a.2 out)
   have h2 : tagsW (if a.1 < known fs then out else putTag a.1 a.2 out) ≤ tagsW out + a.2.length + 1 := by
    split
    ·omega
    ·exact putTag_W _ _ _
   simp only [List.foldl_cons]
   simp only [tagsW, List.map_cons, List.sum_cons] at *
   omega
 have ht : tagsW (u.take Most) ≤ tagsW u := by
  have : tagsW u = tagsW (u.take Most) + tagsW (u.drop Most) := by rw [← tagsW_append, List.take_append_drop]
  omega
 have h0 : tagsW ([] : List (Nat × List UInt8)) = 0 := rfl
 have := gen (u.take Most) []
 unfold unknown
 omega
theorem putTag_key (k : Nat) (v : List UInt8) (l : List (Nat × List UInt8)) : ∀ x ∈ putTag k v l, x = (k, v) ∨ x ∈ l := by
 induction l with
 | nil => intro x hx; simp [putTag] at hx; exact .inl hx
 | cons a l ih =>
  intro x hx
  simp only [putTag] at hx
  split at hx
  ·rcases List.mem_cons.1 hx with rfl | h
   ·exact .inr (by simp)
   ·rcases ih x h with h | h
    ·exact .inl h
    ·exact .inr (by simp [h])
  ·split at hx
   ·exact .inr hx
   ·rcases List.mem_cons.1 hx with rfl | h
    ·exact .inl rfl
    ·exact .inr h
theorem unknown_in (fs : List Fld) (u : List (Nat × List UInt8)) : ∀ x ∈ unknown fs u, x ∈ u := by
 have gen : ∀ (l out : List (Nat × List UInt8)), ∀ x ∈ l.foldl (fun out kv => if kv.1 < known fs then out else putTag kv.1 kv.2 out) out, x ∈ out ∨ x ∈ l := by
  intro l
  induction l with
  | nil => intro out x hx; exact .inl hx
  | cons a l ih =>
   intro out x hx
   rcases ih _ x hx with h | h
   ·simp only [] at h
    split at h
    ·exact .inl h
    ·rcases putTag_key _ _ _ x h with rfl | h
     ·exact .inr (by simp)
     ·exact .inl h
   ·exact .inr (by simp [h])
 intro x hx
 rcases gen (u.take Most) [] x hx with h | h
 ·cases h
 ·exact List.mem_of_mem_take h
theorem others_le (fs : List Fld) (t : Tree) (hok : t.ok) : tagsB (others fs t.u) ≤ 14 * t.wt := by
 have h1 := unknown_W fs t.u
 have h2 := u_wt t
 have h3 : tagsB (others fs t.u) ≤ 13 * tagsW (unknown fs t.u) := by
  have gen : ∀ l : List (Nat × List UInt8), (∀ kv ∈ l, kv.1 < 4294967296) → tagsB (l.map fun kv => (kv.1, whole kv.2)) ≤ 13 * tagsW l := by
   intro l
   induction l with
   | nil => intro _; simp [tagsB]
   | cons a l ih =>
    intro h
    have := ih (fun x hx => h x (by simp [hx]))
    have ha := uvar_le6 a.1 (by have := h a (by simp); omega)
    have hb := uvar_le6 (whole a.2).length (by have := (whole_le a.2).2; omega)
    have hc := (whole_le a.2).1
    simp only [tagsB, tagsW, List.map_cons, List.sum_cons, wTag, List.length_append] at *
    omega
  exact gen _ (fun kv hkv => hok.u kv (unknown_in fs t.u kv hkv))
 omega
theorem things_le (g : Tree → List UInt8) (c : Nat) : ∀ (l : List Tree), (∀ x ∈ l, (g x).length ≤ c * x.wt) → (l.flatMap g).length ≤ c * Tree.wts l
 | [], _ => by simp
 | x :: l, h => by
  have h1 := h x (by simp)
  have h2 := things_le g c l (fun y hy => h y (by simp [hy]))
  simp only [List.flatMap_cons, List.length_append, Tree.wts, Nat.mul_add]; omega
end Go.Proofs.YtlmnaffhadeolaaGreatDoor

namespace Go.Proofs.YtlmnaffhadeolaaGreatDoor
theorem uvar_le1 (n : Nat) : (uvar n).length ≤ n + 1 := by
 induction n using Nat.strongRecOn with
 | _ n ih =>
  rw [uvar]; split
  ·simp
  ·have := ih (n / 128) (by omega)
   simp only [List.length_cons]; omega
theorem uvar_few (a b : Nat) (h : b ≤ 32767) : (uvar (a + b)).length ≤ a + 258 := by
 rw [uvar]; split
 ·simp
 ·have := uvar_le1 ((a + b) / 128)
  simp only [List.length_cons]; omega
def tagsC (l : List (Nat × List UInt8)) : Nat := (l.map fun kv => 1 + (wTag kv.1 kv.2).length).sum
theorem tagsC_eq (l : List (Nat × List UInt8)) : tagsC l = l.length + tagsB l := by
 induction l with
 | nil => rfl
 | cons a l ih => simp only [tagsC, tagsB, List.map_cons, List.sum_cons, List.length_cons] at *; omega
theorem tagsC_append (a b : List (Nat × List UInt8)) : tagsC (a ++ b) = tagsC a + tagsC b := by simp [tagsC]
theorem tagsC_range (g : Nat → List (Nat × List UInt8)) (M : Nat) : ∀ n, (∀ k, tagsC (g k) ≤ M) → tagsC ((List.range n).flatMap g) ≤ n * M
 | 0, _ => by simp [tagsC]
 | n + 1, h => by
  rw [List.range_succ, List.flatMap_append, tagsC_append, Nat.succ_mul]
  have := tagsC_range g M n h
  have := h n
  simp only [List.flatMap_cons, List.flatMap_nil, List.append_nil]; omega
theorem unknown_few (fs : List Fld) (u : List (Nat × List UInt8)) : (unknown fs u).length ≤ 32767 := by
 have put : ∀ (k : Nat) (v : List UInt8) (l : List (Nat × List UInt8)), (putTag k v l).length ≤ l.length + 1 := by
  intro k v l
  induction l with
  | nil => simp [putTag]
  | cons a l ih =>
   simp only [putTag]
   split
   ·simp; omega
   ·split
    ·simp
    ·simp
 have gen : ∀ (l out : List (Nat × List UInt8)), (l.foldl (fun out kv => if kv.1 < known fs then out else putTag kv.1 kv.2 out) out).length ≤ out.length + l.length := by
  intro l
  induction l with
  | nil => intro out; simp
  | cons a l ih =>
   intro out
   have h1 := ih (if a.1 < known fs then out else putTag a.1 a.2 out)
   have h2 : (if a.1 < known fs then out else putTag a.1 a.2 out).length ≤ out.length + 1 := by
    split
    ·omega
    ·exact put _ _ _
   simp only [List.foldl_cons, List.length_cons]; omega
 have h := gen (u.take Most) []
 have hM : (u.take Most).length ≤ 32767 := by rw [List.length_take]; exact Nat.min_le_left _ _
 unfold unknown
 simp only [List.length_nil] at h; omega
theorem others_few (fs : List Fld) (u : List (Nat × List UInt8)) : (others fs u).length ≤ 32767 := by
 simp only [others, List.length_map]; exact unknown_few fs u
theorem part_leF (ver : Int) (flex : Bool) (fs : List Fld) (t : Tree) (M O : Nat) (hF : (wFs ver flex fs 0 t).length ≤ M) (hT : ∀ k, tagsC (wTs ver flex fs 0 k t) ≤ M) (hO : tagsB (others fs t.u) ≤ O) :
  (wPart ver flex fs t).length ≤ (1 + known fs) * M + (bif flex then O + 258 else 0) := by
 unfold wPart asm
 rw [Nat.add_mul]
 cases flex with
 | false => simp only [Bool.false_eq_true, if_false, cond_false]; omega
 | true =>
  simp only [if_true, cond_true, List.length_append, flat_tagsB]
  have h1 := tagsC_range (fun k => wTs ver true fs 0 k t) M (known fs) hT
  have h2 : allTags ver true fs t = (List.range (known fs)).flatMap (fun k => wTs ver true fs 0 k t) ++ others fs t.u := rfl
  rw [h2, tagsB_append, List.length_append]
  have h3 := uvar_few ((List.range (known fs)).flatMap (fun k => wTs ver true fs 0 k t)).length (others fs t.u).length (others_few fs t.u)
  have h4 := tagsC_eq ((List.range (known fs)).flatMap (fun k => wTs ver true fs 0 k t))
  omega
theorem part_le (ver : Int) (flex : Bool) (fs : List Fld) (t : Tree) (M O : Nat) (hF : (wFs ver flex fs 0 t).length ≤ M) (hT : ∀ k, tagsC (wTs ver flex fs 0 k t) ≤ M) (hO : tagsB (others fs t.u) ≤ O) :
  (wPart ver flex fs t).length ≤ (1 + known fs) * M + (O + 258) := Nat.le_trans (part_leF ver flex fs t M O hF hT hO) (by cases flex <;> simp)
def tagged (tag : Int) (n : Nat) : Nat := if tag < 0 then n else n + n + tag.toNat + 3
theorem le_tagged (tag : Int) (n : Nat) : n ≤ tagged tag n := by unfold tagged; split <;> omega
theorem tag_le (k : Nat) (b : List UInt8) (n : Nat) (h : b.length ≤ n) : 1 + (wTag k b).length ≤ n + n + k + 3 := by
 have h1 := uvar_le1 k
 have h2 := uvar_le1 b.length
 simp only [wTag, List.length_append]; omega
def oF (fl : Bool) : Nat := bif fl then 1074069751 else 0
mutual
def Fld.most (fl : Bool) : Fld → Nat
 | .mk kind _ _ _ _ _ of sub =>
  if kind = 11 then 8 + 32767 * (if of = 10 then (1 + known sub) * Fld.mosts fl sub + oF fl else 32783)
  else if kind = 10 then 1 + ((1 + known sub) * Fld.mosts fl sub + oF fl) else 32783
def Fld.mosts (fl : Bool) : List Fld → Nat
 | [] => 0
 | f :: fs => tagged f.tag (f.most fl) + Fld.mosts fl fs
end
theorem wVal_part (flex null : Bool) (p : Tree → List UInt8) (t : Tree) : wVal 10 flex null p t = p t := by simp [wVal]
theorem things_few (l : List Tree) : (things l).length ≤ 32767 := by unfold things Most; rw [List.length_take]; omega
mutual
def Fld.price : Fld → Nat
 | .mk _ _ _ _ _ _ _ sub => ((1 + known sub) * Fld.prices sub + 272) + 24 + 9
def Fld.prices : List Fld → Nat
 | [] => 0
 | f :: fs => tagged f.tag f.price + Fld.prices fs
end
def partPrice (fs : List Fld) : Nat := (1 + known fs) * Fld.prices fs + 272
theorem tagged_mul (tag : Int) (n k w : Nat) (ht : tag = (k : Int)) (hw : 1 ≤ w) : n * w + n * w + k + 3 ≤ tagged tag n * w := by
 unfold tagged
 rw [if_neg (by omega)]
 have : tag.toNat = k := by omega
 rw [this, Nat.add_mul, Nat.add_mul, Nat.add_mul]
 have : k * 1 ≤ k * w := Nat.mul_le_mul_left _ hw
 omega
mutual
theorem wField_price (ver : Int) (flex : Bool) : ∀ (f : Fld) (t : Tree), t.ok → (wField ver flex f t).length ≤ f.price * t.wt
 | .mk kind fr upto nul tag df of sub, t, ht => by
  have hw := t.wt_pos
  have hp : ∀ x : Tree, x.ok → (wPart ver flex sub x).length ≤ ((1 + known sub) * Fld.prices sub + 272) * x.wt := fun x hx => by
   have hx1 := x.wt_pos
   have := part_le ver flex sub x (Fld.prices sub * x.wt) (14 * x.wt) (wFs_price ver flex sub 0 x hx) (fun k => wTs_price ver flex sub 0 k x hx) (others_le sub x hx)
   rw [Nat.add_mul, Nat.mul_assoc]
   omega
  rw [wField_mk ver flex kind fr upto nul tag df of sub t _ rfl]
  simp only [Fld.price]
  generalize (1 + known sub) * Fld.prices sub + 272 = c at hp ⊢
  have hc : (c + 24 + 9) * t.wt = (c + 24) * t.wt + 9 * t.wt := Nat.add_mul _ _ _
  by_cases h11 : kind = 11
  ·simp only [h11, if_true]
   generalize (t.nul && decide (0 ≤ nul) && decide (nul ≤ ver)) = null
   have hlen : (if null then ([] : List Tree) else things t.l).length ≤ 32767 := by
    cases null
    ·exact things_few t.l
    ·simp
   have hmem : ∀ x ∈ (if null then ([] : List Tree) else things t.l), x.ok := by
    intro x hx
    cases null
    ·exact ht.l x (List.mem_of_mem_take hx)
    ·simp at hx
   have hwt : Tree.wts (if null then ([] : List Tree) else things t.l) ≤ t.wt := by
    have := l_wt t
    have := wts_take t.l Most
    cases null
    ·show Tree.wts (t.l.take Most) ≤ _; omega
    ·simp [Tree.wts]
   have h8 := counted_le flex null (if null then ([] : List Tree) else things t.l).length 4 (by omega) (by omega)
   rw [List.length_append]
   have h9 := things_le (wVal of flex false (wPart ver flex sub)) (c + 24) (if null then ([] : List Tree) else things t.l) (fun x hx => wVal_le of flex false _ x c (hp x (hmem x hx)))
   have h10 : (c + 24) * Tree.wts (if null then ([] : List Tree) else things t.l) ≤ (c + 24) * t.wt := Nat.mul_le_mul_left _ hwt
   omega
  ·simp only [h11, if_false]
   by_cases h10 : kind = 10
   ·simp only [h10, true_and]
    have h1 := hp t ht
    have h2 : c * t.wt ≤ (c + 24) * t.wt := Nat.mul_le_mul_right _ (by omega)
    split
    ·split
     ·rw [be_len]; omega
     ·rw [List.length_append, be_len]; omega
    ·rw [wVal_part]; omega
   ·simp only [h10, false_and, if_false]
    have := wVal_le kind flex (t.nul && decide (0 ≤ nul) && decide (nul ≤ ver)) (wPart ver flex sub) t c (hp t ht)
    omega
theorem wFs_price (ver : Int) (flex : Bool) : ∀ (fs : List Fld) (i : Nat) (t : Tree), t.ok → (wFs ver flex fs i t).length ≤ Fld.prices fs * t.wt
 | [], _, _, _ => by simp [wFs]
 | f :: fs, i, t, ht => by
  have h1 := wField_price ver flex f (att t i) (ht.at i)
  have h2 := wFs_price ver flex fs (i + 1) t ht
  have h3 : f.price * (att t i).wt ≤ tagged f.tag f.price * t.wt := Nat.mul_le_mul (le_tagged _ _) (att_wt t i)
  simp only [wFs, Fld.prices, List.length_append, Nat.add_mul]
  split
  ·omega
  ·simp only [List.length_nil]; omega
theorem wTs_price (ver : Int) (flex : Bool) : ∀ (fs : List Fld) (i k : Nat) (t : Tree), t.ok → tagsC (wTs ver flex fs i k t) ≤ Fld.prices fs * t.wt
 | [], _, _, _, _ => by simp [wTs, tagsC]
 | f :: fs, i, k, t, ht => by
  have h1 := wField_price ver flex f (att t i) (ht.at i)
  have h2 := wTs_price ver flex fs (i + 1) k t ht
  simp only [wTs, Fld.prices, tagsC_append, Nat.add_mul]
  split
  ·rename_i h
   have h0 : f.price * (att t i).wt ≤ f.price * t.wt := Nat.mul_le_mul_left _ (att_wt t i)
   have h3 := tag_le k (wField ver flex f (att t i)) (f.price * t.wt) (by omega)
   have h4 := tagged_mul f.tag f.price k t.wt h.1 t.wt_pos
   simp only [tagsC, List.map_cons, List.map_nil, List.sum_cons, List.sum_nil] at h2 ⊢; omega
  ·have : tagsC ([] : List (Nat × List UInt8)) = 0 := rfl
   omega
end
theorem wPart_price (ver : Int) (flex : Bool) (fs : List Fld) (t : Tree) (ht : t.ok) : (wPart ver flex fs t).length ≤ partPrice fs * t.wt := by
 have hx1 := t.wt_pos
 have := part_le ver flex fs t (Fld.prices fs * t.wt) (14 * t.wt) (wFs_price ver flex fs 0 t ht) (fun k => wTs_price ver flex fs 0 k t ht) (others_le fs t ht)
 unfold partPrice
 rw [Nat.add_mul, Nat.mul_assoc]
 omega
end Go.Proofs.YtlmnaffhadeolaaGreatDoor

namespace Go.Proofs.YtlmnaffhadeolaaGreatDoor
open Go Go.RowKit
theorem ti_u8 : isInt Tryz.prog 5 .u8 = true := by kernel_rfl
theorem ti_i64 : isInt Tryz.prog 3 .i64 = true := by kernel_rfl
theorem ti_i32 : isInt Tryz.prog 21 .i32 = true := by kernel_rfl
theorem ti_i16 : isInt Tryz.prog 57 .i16 = true := by kernel_rfl
theorem ti_u16 : isInt Tryz.prog 152 .u16 = true := by kernel_rfl
theorem ti_u32 : isInt Tryz.prog 77 .u32 = true := by kernel_rfl
theorem tb_bytes : byteSl Tryz.prog 22 5 = true := by kernel_rfl
theorem ts_str : (match Tryz.prog.underlying 9 with | some .string => true | _ => false) = true := by kernel_rfl
theorem ti_u64 : isInt Tryz.prog 122 .u64 = true := by kernel_rfl
theorem ti_l64 : isInt Tryz.prog 2 .i64 = true := by kernel_rfl
theorem fo_tree0 : fieldOff Tryz.prog 26 0 = some 0 := by kernel_rfl
theorem fo_fld0 : fieldOff Tryz.prog 55 0 = some 0 := by kernel_rfl
theorem fo_fld4 : fieldOff Tryz.prog 55 4 = some 4 := by kernel_rfl
theorem fo_fld5 : fieldOff Tryz.prog 55 5 = some 5 := by kernel_rfl
theorem fo_fld6 : fieldOff Tryz.prog 55 6 = some 6 := by kernel_rfl
theorem fo_fld7 : fieldOff Tryz.prog 55 7 = some 7 := by kernel_rfl
theorem fo_tag0 : fieldOff Tryz.prog 79 0 = some 0 := by kernel_rfl
theorem to_int : tyOne Tryz.prog 3 = true := by kernel_rfl
theorem to_bool : tyOne Tryz.prog 4 = true := by kernel_rfl
theorem to_str : tyOne Tryz.prog 9 = true := by kernel_rfl
theorem to_bytes : tyOne Tryz.prog 22 = true := by kernel_rfl
theorem to_trees : tyOne Tryz.prog 23 = true := by kernel_rfl
theorem to_tags : tyOne Tryz.prog 24 = true := by kernel_rfl
theorem to_flds : tyOne Tryz.prog 28 = true := by kernel_rfl
theorem to_u32 : tyOne Tryz.prog 77 = true := by kernel_rfl
theorem to_i64 : tyOne Tryz.prog 2 = true := by kernel_rfl
theorem to_u8 : tyOne Tryz.prog 5 = true := by kernel_rfl
theorem ta_tree : tyAgg Tryz.prog 26 = some 5 := by kernel_rfl
theorem tz_tree : (Tryz.prog.info? 26).map (·.size) = some 5 := by kernel_rfl
theorem ta_fld : tyAgg Tryz.prog 55 = some 8 := by kernel_rfl
theorem tz_fld : (Tryz.prog.info? 55).map (·.size) = some 8 := by kernel_rfl
theorem ta_tag : tyAgg Tryz.prog 79 = some 2 := by kernel_rfl
theorem tz_tag : (Tryz.prog.info? 79).map (·.size) = some 2 := by kernel_rfl
theorem ta_msg : tyAgg Tryz.prog 30 = some 2 := by kernel_rfl
theorem tz_msg : (Tryz.prog.info? 30).map (·.size) = some 2 := by kernel_rfl
theorem es_bytes : elemSize Tryz.prog 22 = some 1 := by kernel_rfl
theorem el_bytes : (elemSize Tryz.prog 22).isSome = true := by kernel_rfl
theorem es_trees : elemSize Tryz.prog 23 = some 5 := by kernel_rfl
theorem el_trees : (elemSize Tryz.prog 23).isSome = true := by kernel_rfl
theorem es_tags : elemSize Tryz.prog 24 = some 2 := by kernel_rfl
theorem el_tags : (elemSize Tryz.prog 24).isSome = true := by kernel_rfl
theorem es_flds : elemSize Tryz.prog 28 = some 8 := by kernel_rfl
theorem mixed : Tryz.prog.follows .mixedOrders = true := by kernel_rfl
theorem zv_tree (w : World) : (zeroValue 26).run Tryz.prog w = .ok (.agg #[.int .i64 0, .slice none 0 0, .bool false, .slice none 0 0, .slice none 0 0]) w := by kernel_rfl
theorem zv_fld (w : World) : (zeroValue 55).run Tryz.prog w = .ok (.agg #[.int .i64 0, .int .i64 0, .int .i64 0, .int .i64 0, .int .i64 0, .int .i64 0, .int .i64 0, .slice none 0 0]) w := by kernel_rfl
theorem zv_tag (w : World) : (zeroValue 79).run Tryz.prog w = .ok (.agg #[.int .u32 0, .slice none 0 0]) w := by kernel_rfl
def tbl : Tbl := ⟨[(26, 0, 0), (26, 1, 1), (26, 2, 2), (26, 3, 3), (26, 4, 4), (55, 0, 0), (55, 1, 1), (55, 2, 2), (55, 3, 3), (55, 4, 4), (55, 5, 5), (55, 6, 6), (55, 7, 7), (79, 0, 0), (79, 1, 1), (30, 0, 0), (30, 1, 1)], [22, 23, 24, 28]⟩
theorem tbl_ok : tbl.ok Tryz.prog = true := by kernel_rfl
theorem ws {ops : Array Oper} {Q : Exit → Act → World → Prop} {N : Nat} {rest : List Oper} {L : Sl} {w : World} {d : Nat} {ty : TypeId} {pos : String} {aft : Array Edge} {o : Op} {v : Value}
  (hs : stepOp tbl L o = some v) (hd : Nat.blt d N = true) (h : WL rest Tryz.prog ops Q N ((d, v) :: L) w) : WL (⟨some d, o, ty, pos, aft, none⟩ :: rest) Tryz.prog ops Q N L w := wl_step tbl tbl_ok hs hd h
end Go.Proofs.YtlmnaffhadeolaaGreatDoor

namespace Go.Proofs.YtlmnaffhadeolaaGreatDoor
open Go Go.RowKit
def AppW (F : FuncId) (vs : List Value) (pre : World → Nat → Prop) (ys : List UInt8) : Prop :=
 ∀ (d : Value) (w : World) (B : Nat) (xs : List UInt8), pre w B → Own w B 5 d xs → B ≤ w.heap.size → xs.length + ys.length ≤ lim →
  Calls Tryz.prog F (d :: vs).toArray w fun e w' => ∃ d', e = .returned d' ∧ Own w' B 5 d' (xs ++ ys) ∧ Grew w w' d d'
def App (F : FuncId) (vs : List Value) (ys : List UInt8) : Prop := AppW F vs (fun _ _ => True) ys
theorem u32_bytes (u : Int) : [Value.int .u8 (IntKind.u8.wrap (u.fdiv (2 ^ (min (24 : Int).toNat IntKind.u32.bits)))), .int .u8 (IntKind.u8.wrap (u.fdiv (2 ^ (min (16 : Int).toNat IntKind.u32.bits)))), .int .u8 (IntKind.u8.wrap (u.fdiv (2 ^ (min (8 : Int).toNat IntKind.u32.bits)))), .int .u8 (IntKind.u8.wrap u)] = bv (be 4 u) := by
 simp only [wrap_u8, be, bv, List.map_cons, List.map_nil]
 simp [IntKind.bits, Int.fdiv_eq_ediv_of_nonneg]
theorem u16_bytes (u : Int) : [Value.int .u8 (IntKind.u8.wrap (u.fdiv (2 ^ (min (8 : Int).toNat IntKind.u16.bits)))), .int .u8 (IntKind.u8.wrap u)] = bv (be 2 u) := by
 simp only [wrap_u8, be, bv, List.map_cons, List.map_nil]
 simp [IntKind.bits, Int.fdiv_eq_ediv_of_nonneg]
section
set_option maxRecDepth 100000
theorem appendUint32 (u : Int) : App 139 [.int .u32 u] (be 4 u) := by
 intro d w B xs _ hown hB hlim
 refine enter Tryz.func139 rfl Tryz.ntmps139 rfl ?_
 refine wc_seq (wc_region (wl_assign rfl rfl (wl_nil (qk_thn ?_))))
 refine wc_seq (wc_region ?_)
 repeat (first
  | refine wl_move rfl rfl ?_
  | refine wl_shr rfl rfl rfl rfl ?_
  | refine wl_conv .u8 rfl (by kernel_rfl) (by kernel_rfl) rfl rfl ?_)
 refine wl_appLit (by kernel_rfl) rfl (u32_bytes u) rfl rfl rfl rfl rfl hown hB hlim (fun d' w' ho hg => ?_)
 refine wl_assign rfl rfl (wl_nil (qk_thn ?_))
 exact wc_ret (qk_ret1 rfl rfl ⟨d', rfl, ho, hg⟩)
theorem appendUint16 (u : Int) : App 138 [.int .u16 u] (be 2 u) := by
 intro d w B xs _ hown hB hlim
 refine enter Tryz.func138 rfl Tryz.ntmps138 rfl ?_
 refine wc_seq (wc_region (wl_assign rfl rfl (wl_nil (qk_thn ?_))))
 refine wc_seq (wc_region ?_)
 repeat (first
  | refine wl_move rfl rfl ?_
  | refine wl_shr rfl rfl rfl rfl ?_
  | refine wl_conv .u8 rfl (by kernel_rfl) (by kernel_rfl) rfl rfl ?_)
 refine wl_appLit (by kernel_rfl) rfl (u16_bytes u) rfl rfl rfl rfl rfl hown hB hlim (fun d' w' ho hg => ?_)
 refine wl_assign rfl rfl (wl_nil (qk_thn ?_))
 exact wc_ret (qk_ret1 rfl rfl ⟨d', rfl, ho, hg⟩)
theorem appendInt32 (u : Int) : App 86 [.int .i32 u] (be 4 u) := by
 intro d w B xs _ hown hB hlim
 refine enter Tryz.func86 rfl Tryz.ntmps86 rfl ?_
 refine wc_seq (wc_region (wl_assign rfl rfl (wl_nil (qk_thn ?_))))
 refine wc_seq (wc_region ?_)
 repeat (first
  | refine wl_move rfl rfl ?_
  | refine wl_conv .u32 rfl (by kernel_rfl) (by kernel_rfl) rfl rfl ?_)
 have hb : be 4 (IntKind.u32.wrap u) = be 4 u := by rw [IntKind.wrap_u32]; exact be_mod 4 32 u (by omega)
 refine wl_call rfl (by kernel_rfl) rfl ((appendUint32 (IntKind.u32.wrap u) d w B xs trivial hown hB (by rw [hb]; exact hlim)).mono ?_)
 rintro e w' ⟨d', rfl, ho, hg⟩
 rw [hb] at ho
 refine ⟨d', rfl, wl_assign rfl rfl (wl_nil (qk_thn ?_))⟩
 exact wc_ret (qk_ret1 rfl rfl ⟨d', rfl, ho, hg⟩)
end
end Go.Proofs.YtlmnaffhadeolaaGreatDoor
