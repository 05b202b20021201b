/- A part of the proof of FnFrameCreateTopicsRequestUptoCardSaid: what its texts prove stands at the head of each. Conditions: those that each theorem names. -/
import Derived.Test.YtmihblfjhoblmaaGreatDoorPartB
import Derived.Deep.LoopGhost
import Derived.Test.YtmihblfjhoblmaaGreatDoorPartA
import Derived.Test.YtmihblfjhoblmaaGreatDoorProg
import Derived.ScopeJumps
import Derived.Laws.BytesString
set_option linter.all false
/- Where what was read so far does not come to an end well, nothing behind mends it. No program in sight. -/
namespace Go.Proofs.YtmihblfjhoblmaaGreatDoor
open Go Go.RowKit

/-- What was done so far, and what is under way, falls short of these octets. -/
def XU (S : RS) (s : List UInt8) : Prop :=
  ∀ x, rdAs S.acts (Xi S.dfl) s = some x → match S.pd with
    | .no => False
    | .rd p _ => rdP p x.2 = none
    | .len c _ _ => lenP c x.2 = none
    | .ok c _ _ => lenP c x.2 = none
    | .made c _ _ _ => lenP c x.2 = none
    | .done c nb _ st dfl body => rowP c nb st dfl body x.2 = none
    | .tg _ => tagsP x.2 = none
    | .vr _ _ => rdP .uuid x.2 = none
theorem XU.same {S S' : RS} {s : List UInt8} (h : XU S s) (h1 : S'.acts = S.acts) (h2 : S'.dfl = S.dfl) (h3 : S'.pd = S.pd) : XU S' s := by
  unfold XU at *
  rw [h1, h2, h3]; exact h
theorem Yj5 {acts : List Ra} {ra : Ra} {ds0 : List D} {s : List UInt8} (h : ∀ x, rdAs acts ds0 s = some x → rdA ra x.1 x.2 = none) : rdAs (acts ++ [ra]) ds0 s = none := by
  rw [rdAs_append]
  cases hr : rdAs acts ds0 s with
  | none => rfl
  | some x => simp only [Option.bind_some, rdAs_one]; exact h x hr
section
variable {P : Program} {K : Kr} {N rs : Nat}
theorem giveR_fails {S : RS} {op : Op} {x : Hi × Pd} {t : Nat} {s : List UInt8} (h : giveR K P S op = some x) (hf : XU S s) : XU { (S.new t x.1) with pd := x.2 } s := by
  have none_of : S.pd = .no → rdAs S.acts (Xi S.dfl) s = none := by
    intro hp
    cases hr : rdAs S.acts (Xi S.dfl) s with
    | none => rfl
    | some y => have := hf y hr; rw [hp] at this; exact absurd this (by simp)
  have vac : S.pd = .no → XU { (S.new t x.1) with pd := x.2 } s := by
    intro hp y hy
    have h0 := none_of hp
    have hy' : rdAs S.acts (Xi S.dfl) s = some y := hy
    rw [h0] at hy'; cases hy'
  have keep : x.2 = S.pd → XU { (S.new t x.1) with pd := x.2 } s := fun e => hf.same rfl rfl e
  unfold giveR at h
  split at h
  · cases hb : Uq P _ with
    | false => rw [hb] at h; cases h
    | true =>
      rw [hb] at h
      simp only [cond_true] at h
      split at h
      · split at h
        · rename_i hp
          exact vac hp
        · rename_i c n z hp
          cases hb2 : Nat.beq _ K.ok with
          | false => rw [hb2] at h; cases h
          | true =>
            rw [hb2] at h
            simp only [cond_true, Option.some.injEq] at h
            refine keep ?_
            rw [← h, hp]
        · cases h
      · cases h
  · split at h
    · rename_i n _
      split at h
      · cases hb2 : Nat.beq (n + 1) S.H.length with
        | false => rw [hb2] at h; cases h
        | true =>
          rw [hb2] at h
          simp only [cond_true, Option.some.injEq] at h
          exact keep (by rw [← h])
      · cases h
    · cases h
  · split at h
    · split at h
      · simp only [Option.some.injEq] at h
        exact keep (by rw [← h])
      · cases h
    · cases h
  · split at h
    · split at h
      · simp only [Option.some.injEq] at h
        exact keep (by rw [← h])
      · cases h
    · cases h
  · cases h
theorem storeR_fails {k : Nat} {S S1 : RS} {op : Op} {s : List UInt8} (h : storeR P k S op = some S1) (hf : XU S s) : XU S1 s := by
  unfold storeR at h
  split at h
  · rename_i t x y
    split at h
    · rename_i k' off n _ _
      cases hb : Nat.beq k k' with
      | false => rw [hb] at h; cases h
      | true =>
        rw [hb] at h
        simp only [cond_true] at h
        split at h
        · rename_i p n' hp
          cases hc : Nat.beq n n' && Uc P t (shR p).length && decide ((S.shp.drop off).take (shR p).length = shR p) with
          | false => rw [hc] at h; cases h
          | true =>
            rw [hc] at h
            simp only [cond_true, Option.some.injEq] at h
            subst h
            intro x hx
            exfalso
            have := Yj5 (ra := .prim p off) (fun y hy => by have h1 := hf y hy; rw [hp] at h1; simp only [] at h1; simp only [rdA, h1, Option.bind_none]) (acts := S.acts) (ds0 := Xi S.dfl) (s := s)
            exact absurd (hx.symm.trans this) (by simp)
        · rename_i c nb r st dfl body hp
          cases hc : Nat.beq n r && Uc P t 1 && decide ((S.shp.drop off).take 1 = [.sl]) with
          | false => rw [hc] at h; cases h
          | true =>
            rw [hc] at h
            simp only [cond_true, Option.some.injEq] at h
            subst h
            intro x hx
            exfalso
            have := Yj5 (ra := .row c nb off st dfl body) (fun y hy => by have h1 := hf y hy; rw [hp] at h1; simp only [] at h1; rw [rdA_row, h1]; rfl) (acts := S.acts) (ds0 := Xi S.dfl) (s := s)
            exact absurd (hx.symm.trans this) (by simp)
        · rename_i n' hp
          cases hc : Nat.beq n n' && Uc P t 1 && decide ((S.shp.drop off).take 1 = [.mp]) with
          | false => rw [hc] at h; cases h
          | true =>
            rw [hc] at h
            simp only [cond_true, Option.some.injEq] at h
            subst h
            intro x hx
            exfalso
            have := Yj5 (ra := .tags off) (fun y hy => by have h1 := hf y hy; rw [hp] at h1; simp only [] at h1; simp only [rdA, h1, Option.bind_none]) (acts := S.acts) (ds0 := Xi S.dfl) (s := s)
            exact absurd (hx.symm.trans this) (by simp)
        · cases h
    · cases h
  · cases h
theorem dfltR_fails {k : Nat} {S S1 : RS} {op : Op} {s : List UInt8} (h : dfltR P k S op = some S1) (hf : XU S s) : False := by
  unfold dfltR at h
  split at h
  · split at h
    · rename_i hpd hact
      have := hf (Xi S.dfl, s) (by rw [hact]; simp [rdAs])
      rw [hpd] at this
      exact this
    · cases h
  · cases h
theorem bif_some {α : Type} {b : Bool} {a x : α} (h : (bif b then some a else none) = some x) : a = x := by
  cases b with
  | false => cases h
  | true => exact Option.some.inj h
theorem varA_fails {S : RS} {l : List Oper} {x : RS × List Oper} {s : List UInt8} (h : varA P N S l = some x) (hf : XU S s) : XU x.1 s := by
  unfold varA at h
  split at h
  · split at h
    · rename_i n n' hpd _
      have hx := bif_some h
      subst hx
      intro y hy
      have := hf y hy
      rw [hpd] at this
      exact this
    · cases h
  · cases h
theorem varL_fails {S : RS} {op : Op} {x : Nat × RS} {s : List UInt8} (h : varL P S op = some x) (hf : XU S s) (A : WA) : XU { x.2 with A := A } s := by
  unfold varL at h
  split at h
  · split at h
    · rename_i n m m' hpd _
      have hx := bif_some h
      subst hx
      intro y hy
      have := hf y hy
      rw [hpd] at this
      exact this
    · cases h
  · cases h
theorem opsR_fails {k : Nat} {rows : List (Nat × Nat × Nat)} {full : List Oper} : ∀ (n : Nat) (l : List Oper) {S S' : RS} {s : List UInt8}, Ym7 K P N k rows full n S l = some S' → XU S s → XU S' s := by
  intro n
  induction n with
  | zero =>
    intro l S S' s h hf
    cases l with
    | nil => simp only [Ym7, Option.some.injEq] at h; subst h; exact hf
    | cons o l => simp [Ym7] at h
  | succ n ih =>
    intro l S S' s h hf
    cases l with
    | nil => simp only [Ym7, Option.some.injEq] at h; subst h; exact hf
    | cons o l =>
      simp only [Ym7] at h
      split at h
      · rename_i x hx
        exact ih _ h (varA_fails hx hf)
      split at h
      · rename_i dd op ty pos aft j want _
        cases hd : Nat.blt dd N with
        | false => rw [hd] at h; cases h
        | true =>
          rw [hd] at h
          simp only [cond_true] at h
          split at h
          · rename_i b hb
            cases hw : b == want with
            | true => rw [hw] at h; exact ih _ h hf
            | false => rw [hw] at h; exact ih _ h (hf.same rfl rfl rfl)
          · cases h
      · rename_i dd op ty pos aft _
        cases hd : Nat.blt dd N with
        | false => rw [hd] at h; cases h
        | true =>
          rw [hd] at h
          simp only [cond_true] at h
          split at h
          · exact ih _ h (hf.same rfl rfl rfl)
          · split at h
            · exact ih _ h (hf.same rfl rfl rfl)
            · split at h
              · rename_i x hx
                exact ih _ h (giveR_fails hx hf)
              · split at h
                · rename_i S1 hx
                  exact absurd (dfltR_fails hx hf) id
                · split at h
                  · rename_i x hx
                    exact ih _ h (varL_fails hx hf _)
                  · cases h
      · split at h
        · rename_i S1 hx
          exact ih _ h (storeR_fails hx hf)
        · cases h
      · cases h
end
end Go.Proofs.YtmihblfjhoblmaaGreatDoor

/- That the reading of code that VQ tells the truth: lists, as they are made. Over any program. -/
namespace Go.Proofs.YtmihblfjhoblmaaGreatDoor
open Go Go.RowKit

theorem Uo (zc : List Value) (hz : 0 < zc.length) : ∀ n, (Builtin.zeroCells zc.toArray n).toList = (List.replicate n zc).flatten
  | 0 => by simp [Builtin.zeroCells]
  | n + 1 => by
    have ih := Uo zc hz n
    rw [List.replicate_succ', List.flatten_append, ← ih]
    simp only [Builtin.zeroCells, Array.toList_map, Array.toList_range, List.size_toArray, List.flatten_cons, List.flatten_nil, List.append_nil]
    rw [Nat.succ_mul, List.range_add, List.map_append, List.map_map]
    congr 1
    apply List.ext_getElem
    · simp
    · intro i h1 h2
      simp only [List.getElem_map, List.getElem_range, Function.comp]
      rw [Nat.add_comm, Nat.add_mul_mod_self_right, Nat.mod_eq_of_lt h2]
      simp [h2]
theorem Yj8 {P : Program} {t : TypeId} {zc : List Value} (h : Yi3 P t = some zc) : ∃ e i z, P.underlying t = some (.slice e) ∧ P.info? e = some i ∧ i.zero = some z ∧ z.cells.toList = zc ∧ zc.length = i.size ∧ 0 < zc.length ∧ i.bytes ≤ 1024 ∧ (zc.all fun v => v.oneCell') = true := by
  unfold Yi3 at h
  split at h
  · rename_i e he
    split at h
    · rename_i i hi
      split at h
      · rename_i z hz
        cases hc : z.cells.toList.all (·.oneCell') && Nat.beq z.cells.size i.size && Nat.blt 0 i.size && Nat.ble i.bytes 1024 with
        | false => rw [hc] at h; cases h
        | true =>
          rw [hc] at h
          simp only [cond_true, Option.some.injEq] at h
          simp only [Bool.and_eq_true] at hc
          have h1 := Ys hc.1.1.2
          have h2 := Nat.le_of_ble_eq_true hc.1.2
          have hl : zc.length = i.size := by rw [← h, Array.length_toList]; exact h1
          exact ⟨e, i, z, he, hi, hz, h, hl, by omega, Nat.le_of_ble_eq_true hc.2, by rw [← h]; exact hc.1.1.1⟩
      · cases h
    · cases h
  · cases h
theorem lenP_lt {c : Bool} {s : List UInt8} {x : Int × List UInt8} (h : lenP c s = some x) : x.1 < 2147483648 := by
  simp only [lenP, Option.bind_eq_some_iff] at h
  obtain ⟨y, hy, hx⟩ := h
  split at hx
  · cases hx
  · cases hx
    split at hy
    · simp only [Option.map_eq_some_iff] at hy
      obtain ⟨z, _, rfl⟩ := hy
      simp only [IntKind.wrap_i32]
      omega
    · simp only [Yd4, Option.map_eq_some_iff] at hy
      obtain ⟨z, _, rfl⟩ := hy
      simp only [IntKind.wrap_i32]
      omega
theorem run_appMake {P : Program} (w : World) {t u ty : TypeId} {zc : List Value} {l : Int} (hz : Yi3 P t = some zc) (hu : VA P u .i32 = true) (hl : 0 < l) (hlim : l ≤ 4294967296) :
    ∃ cap e, l.toNat ≤ cap ∧ (Builtin.append_ #[t, u] ty #[.slice none 0 0, .int .i32 l]).run P w = .ok (.slice (some ⟨w.heap.size, 0, none⟩) l.toNat cap) (w.drew.alloc (.cells ((List.replicate cap zc).flatten).toArray e)) := by
  obtain ⟨e, i, z, ht, hi, hzz, hzc, hlen, hpos, hb, _⟩ := Yj8 hz
  have hu' := UN hu
  have hwrap : IntKind.i64.wrap l = l := by rw [IntKind.wrap_i64]; omega
  have hneg : ¬ l < 0 := by omega
  have hcap := grownCap_ge w l.toNat 0 e
  have hmul : l.toNat * i.bytes ≤ 4294967296 * 1024 := Nat.mul_le_mul (by omega) hb
  have hmulI : ¬ ((281474976710656 : Int) < l * (i.bytes : Int)) := by
    have : l * (i.bytes : Int) = ((l.toNat * i.bytes : Nat) : Int) := by rw [Int.natCast_mul, Int.toNat_of_nonneg (by omega)]
    rw [this]; omega
  have h48 : ¬ (281474976710656 < Builtin.nextslicecap l.toNat 0 * i.bytes) := by
    rw [nextslicecap_zero (by omega)]; omega
  have hza : z.cells = zc.toArray := by rw [← hzc]
  have hmx : max l 0 = l := by omega
  have hle0 : ¬ l ≤ 0 := by omega
  have h63l : ¬ (9223372036854775807 : Int) < l := by omega
  refine ⟨grownCap w l.toNat 0 e, e, by omega, ?_⟩
  have hns : ¬ l.toNat * i.size = 0 := by rw [← hlen]; exact Nat.ne_of_gt (Nat.mul_pos (by omega) hpos)
  have hall : Builtin.zeroCells zc.toArray l.toNat ++ Builtin.zeroCells zc.toArray (grownCap w l.toNat 0 e - l.toNat) = ((List.replicate (grownCap w l.toNat 0 e) zc).flatten).toArray := by
    apply Array.ext'
    rw [Array.toList_append, Uo zc hpos, Uo zc hpos, ← List.flatten_append, List.replicate_append_replicate]
    congr 2; omega
  rw [← hall]
  simp [Builtin.append_, run_underlying ht, run_underlying hu', sizeOf, typeInfo, zeroValue, hi, hzz, h48, Question.forced, run_firstCells_none, newRow, grownCap, asInt, asIntOf, hwrap, hneg, hmulI, hza, hmx, hle0, h63l]
  exact fun h => absurd h hns
section
variable {P : Program} {K : Kr} {N g rb sb : Nat} {ev : Value} {k : Nat} {rows : List (Nat × Nat × Nat)} {zs : List (Nat × List Value)} {S : RS} {Ad : List (Nat × Nat)} {R : List Value} {I : List Int} {it : Wi} {sst st0 st : Option (List UInt8)} {a : Act} {w : World}
theorem fr_of {R : List Value} {v : Value} {w w' : World} (hc : Chg (fun _ => False) w w') : Fr rb it it R (R ++ [v]) w w' := ⟨rfl, rfl, rfl, rfl, rfl, hc.wide (fun _ h => h.elim), [v], rfl⟩
/-- 'if .. || l == 0 { a = []T{} }'. -/
theorem lz_ok (H : RAt N g rb sb ev k rows zs S Ad R I it sst st0 st a w) {q : Operand} {h l t u : Nat} {c : Bool} {cd : Code} (hq0 : evW S.A q = some (.res h)) (hh : hiAt S h = some (.lz l)) (hpd : S.pd = .len c l none) (hn : nilR P N S.A cd = some (t, u)) {Q : Exit → Act → World → Prop}
    (hq : ∀ v a' w', Fr rb it it R (R ++ [v]) w w' → RAt N g rb sb ev k rows zs { (({ S with A := Va (Va S.A u) t } : RS).new t (.sl0 l)) with pd := .len c l (some S.H.length) } Ad (R ++ [v]) I it sst st0 st a' w' → Q .normal a' w') : (Code.cond q cd .skip).wp P Q a w := by
  have hd := H.kn.eval hq0
  simp only [VS] at hd
  obtain ⟨l0, hl0, hval⟩ := H.ho.2 h _ _ hh hd
  have hp := H.pd
  rw [hpd] at hp
  obtain ⟨l1, hl1, hrel, _⟩ := hp
  rw [hl0] at hl1
  simp only [Option.some.injEq, Value.int.injEq, true_and] at hl1
  subst hl1
  unfold nilR at hn
  split at hn
  · rename_i id ua ty y1 p1 f1 ub ua2 y2 p2 f2
    cases hc : Nat.beq ua ua2 && Nat.blt ua N && Nat.blt ub N && XZ P ty && isNil0 S.A ub && !Nat.beq ua ub with
    | false => rw [hc] at hn; cases hn
    | true =>
      rw [hc] at hn
      simp only [cond_true, Option.some.injEq, Prod.mk.injEq] at hn
      obtain ⟨rfl, rfl⟩ := hn
      simp only [Bool.and_eq_true] at hc
      obtain ⟨⟨⟨⟨⟨h1, h2⟩, h3⟩, h4⟩, h5⟩, h6⟩ := hc
      have := Ys h1; subst this
      have hne : ua ≠ ub := by rintro rfl; rw [Nat.beq_refl] at h6; cases h6
      have hnil : gt a ub = .slice none 0 0 := by
        unfold isNil0 at h5
        split at h5
        · rename_i hx
          have := H.kn.at_ ub _ hx
          simp only [VS, Option.some.injEq] at this
          exact this.symm
        · cases h5
      by_cases h0 : l0 = 0
      · subst h0
        refine wp_cond_true hval ?_
        unfold XZ YG at h4
        split at h4
        · rename_i e he
          cases hi : P.info? e with
          | none => rw [hi] at h4; simp at h4
          | some inf =>
            have hrun : (execOp a.eval ⟨some ua, .buildSlice ty 0 #[], y1, p1, f1, none⟩).run P w = .ok (.value (.slice (some ⟨w.heap.size, 0, none⟩) 0 0)) (w.alloc (.cells #[] e)) := by
              simp [execOp, Instr.buildSlice, run_underlying he, sizeOf, typeInfo, hi, newRow, Instr.fill]
              rw [show Array.range 0 = #[] from rfl, Array.map_empty]
            have hal : Chg (fun _ => False) w (w.alloc (.cells #[] e)) := Ua w _ _
            refine wp_region_lit (YR (o := ⟨some ua, .buildSlice ty 0 #[], y1, p1, f1, none⟩) rfl hrun (Vr ?_))
            have k1 := H.kn.putOff (t := ua) (.slice (some ⟨w.heap.size, 0, none⟩) 0 0)
            have e1 : gt (a.put (some ua) (.slice (some ⟨w.heap.size, 0, none⟩) 0 0)) ua = .slice (some ⟨w.heap.size, 0, none⟩) 0 0 := Yw _ _ _ (by rw [H.kn.size]; exact Nat.le_of_ble_eq_true h2)
            rw [Xd, e1]
            refine hq (.slice (some ⟨w.heap.size, 0, none⟩) 0 0) _ _ (fr_of hal) ?_
            have k2 := k1.putOff (t := ub) (.slice (some ⟨w.heap.size, 0, none⟩) 0 0)
            refine H.next hal ⟨_, _, rfl⟩ trivial (A := Va (Va S.A ua) ub) k2 ?_ ?_
            · exact Yw _ _ _ (by rw [k1.size]; exact Nat.le_of_ble_eq_true h3)
            · refine ⟨0, Xa hl0, hrel, fun h => absurd rfl h, fun _ => ⟨w.heap.size, ?_, ⟨.inr H.lo.2.2.2, by simp⟩, ⟨#[], e, (0, 0), heap_alloc_new w _, by simp, by simp⟩⟩⟩
              rw [← H.ho.1]; simp
        · cases h4
      · have hval' : a.eval q = .bool false := by rw [hval]; simp [h0]
        refine wp_cond_false hval' (wp_skip ?_)
        refine hq (.slice none 0 0) a w (fr_of (Chg.refl _ _)) ?_
        refine H.next (Chg.refl _ _) ⟨_, _, rfl⟩ trivial (H.kn.weak (XB (Xx _ _) (Xx _ _))) hnil ⟨l0, Xa hl0, hrel, fun _ => ?_, fun h => absurd h h0⟩
        rw [← H.ho.1]; simp
  · cases hn
/-- 'if l > 0 { a = append(a, make([]T, l)...) }'. -/
theorem lp_ok (H : RAt N g rb sb ev k rows zs S Ad R I it sst st0 st a w) {q : Operand} {h l t x y u ty : Nat} {c : Bool} {z z' : Option Nat} {zc : List Value} {cd : Code} (hq0 : evW S.A q = some (.res h)) (hh : hiAt S h = some (.lp l)) (hpd : S.pd = .ok c l z) (hn : madeR P N S l cd = some (t, x, y, u, z')) (hty : madeTy cd = some ty) (hzc : Yi3 P ty = some zc) (hzz : optEq z z' = true) {Q : Exit → Act → World → Prop}
    (hq : ∀ v a' w', Fr rb it it R (R ++ [v]) w w' → RAt N g rb sb ev k rows ((S.H.length, zc) :: zs) { (({ S with A := Va (Va (Va (Va S.A x) y) u) t } : RS).new t (.row l)) with pd := .made c l z S.H.length } Ad (R ++ [v]) I it sst st0 st a' w' → Q .normal a' w') : (Code.cond q cd .skip).wp P Q a w := by
  have hd := H.kn.eval hq0
  simp only [VS] at hd
  obtain ⟨l0, hl0, hval⟩ := H.ho.2 h _ _ hh hd
  have hp := H.pd
  rw [hpd] at hp
  obtain ⟨l1, s1, hl1, hrel, hst, hzok⟩ := hp
  rw [hl0] at hl1
  simp only [Option.some.injEq, Value.int.injEq, true_and] at hl1
  subst hl1
  obtain ⟨_, _, _, _, _, _, _, hzlen, hzpos, _, hzone⟩ := Yj8 hzc
  -- the count is no more than what lies ahead
  have hlim : l0 ≤ 4294967296 := by
    subst hst
    cases st0 with
    | none => simp [Um] at hrel
    | some s0 =>
      simp only [Um] at hrel
      split at hrel
      · rename_i p hp
        simp only [Option.some.injEq] at hrel
        have := lenP_lt hp
        rw [hrel.2]
        omega
      · cases hrel
  unfold madeR at hn
  split at hn
  · rename_i id tx tb y1 p1 f1 tyy ts y2 p2 f2 ta x2 yy2 t0 t32 y3 p3 f3 tb2 a2 y4 p4 f4
    cases hc : Nat.beq tx x2 && Nat.beq tyy yy2 && Nat.beq ta a2 && Nat.beq tb tb2 && Nat.blt tx N && Nat.blt tyy N && Nat.blt ta N && Nat.blt tb N && !Nat.beq tx tyy && XZ P t0 && VA P t32 .i32 && isRes S.A ts l && !Nat.beq tx ts && !Nat.beq tx tb && !Nat.beq tyy tb && !Nat.beq ta tb with
    | false => rw [hc] at hn; cases hn
    | true =>
      rw [hc] at hn
      simp only [cond_true] at hn
      simp only [Bool.and_eq_true] at hc
      obtain ⟨⟨⟨⟨⟨⟨⟨⟨⟨⟨⟨⟨⟨⟨⟨g1, g2⟩, g3⟩, g4⟩, g5⟩, g6⟩, g7⟩, g8⟩, g9⟩, g10⟩, g11⟩, g12⟩, g13⟩, g14⟩, g15⟩, g16⟩ := hc
      have := Ys g1; subst this
      have := Ys g2; subst this
      have := Ys g3; subst this
      have := Ys g4; subst this
      have ne : ∀ p q : Nat, (!Nat.beq p q) = true → p ≠ q := by rintro p q h rfl; rw [Nat.beq_refl] at h; cases h
      simp only [madeTy, Option.some.injEq] at hty
      subst hty
      have hres : gt a ts = .int .i32 l0 := by
        unfold isRes at g12
        split at g12
        · rename_i n hx
          have := Ys g12; subst this
          have := H.kn.at_ ts _ hx
          simp only [VS] at this
          rw [hl0] at this
          simpa using this.symm
        · cases g12
      -- what the slot held
      have hslot : ∃ v0, gt a tb = v0 ∧ (l0 ≠ 0 → v0 = .slice none 0 0) ∧ (match z with | none => v0 = .slice none 0 0 | some zi => R[zi]? = some v0) ∧ (tb, tx, tyy, ta, z') = (t, x, y, u, z') := by
        split at hn
        · rename_i hx
          cases hn
          have := H.kn.at_ _ _ hx
          simp only [VS, Option.some.injEq] at this
          have hzn : z = none := by cases z with | none => rfl | some _ => cases hzz
          subst hzn
          exact ⟨_, this.symm, fun _ => rfl, rfl, rfl⟩
        · rename_i zi hx
          split at hn
          · rename_i l' hzi
            cases hll : Nat.beq l l' with
            | false => rw [hll] at hn; cases hn
            | true =>
              rw [hll] at hn
              simp only [cond_true, Option.some.injEq, Prod.mk.injEq] at hn
              obtain ⟨rfl, rfl, rfl, rfl, rfl⟩ := hn
              cases z with
              | none => cases hzz
              | some zi' =>
                have := Ys hzz; subst this
                have hg := H.kn.at_ tb _ hx
                simp only [VS] at hg
                refine ⟨gt a tb, rfl, fun h0 => ?_, hg, rfl⟩
                have := hzok.1 h0
                rw [hg] at this
                simpa using this
          · cases hn
        · cases hn
      obtain ⟨v0, hv0, hnz, hz0, hvars⟩ := hslot
      simp only [Prod.mk.injEq, and_true] at hvars
      obtain ⟨rfl, rfl, rfl, rfl⟩ := hvars
      by_cases hpos : 0 < l0
      · have hval' : a.eval q = .bool true := by rw [hval]; simp [hpos]
        have hv0' := hnz (by omega)
        subst hv0'
        obtain ⟨cap, e, hcap, hrun⟩ := run_appMake (P := P) w (ty := y3) hzc g11 hpos hlim
        refine wp_cond_true hval' (wp_region_lit (Vk ?_))
        rw [Xd, hv0]
        have k1 := H.kn.putOff (t := tx) (.slice none 0 0)
        have e1 : gt (a.put (some tx) (.slice none 0 0)) tx = .slice none 0 0 := Yw _ _ _ (by rw [H.kn.size]; exact Nat.le_of_ble_eq_true g5)
        have e2 : gt (a.put (some tx) (.slice none 0 0)) ts = .int .i32 l0 := by rw [Yy _ _ _ _ (ne _ _ g13).symm]; exact hres
        generalize a.put (some tx) (.slice none 0 0) = b1 at *
        refine Vk ?_
        rw [Xd, e2]
        have k2 := k1.putOff (t := tyy) (.int .i32 l0)
        have e3 : gt (b1.put (some tyy) (.int .i32 l0)) tx = .slice none 0 0 := by rw [Yy _ _ _ _ (ne _ _ g9)]; exact e1
        have e4 : gt (b1.put (some tyy) (.int .i32 l0)) tyy = .int .i32 l0 := Yw _ _ _ (by rw [k1.size]; exact Nat.le_of_ble_eq_true g6)
        generalize b1.put (some tyy) (.int .i32 l0) = b2 at *
        have hexec : (execOp b2.eval ⟨some ta, .call ⟨.builtin .append, #[.tmp tx, .tmp tyy], #[t0, t32]⟩, y3, p3, f3, none⟩).run P w = .ok (.value (.slice (some ⟨w.heap.size, 0, none⟩) l0.toNat cap)) (w.drew.alloc (.cells ((List.replicate cap zc).flatten).toArray e)) := by
          simp only [execOp, resolve, List.map_toArray, List.map_cons, List.map_nil, Xd, e3, e4, Sem.run_bind, Sem.run_pure, Result.andThen_ok, invoke, builtin, hrun]
        refine YR (o := ⟨some ta, .call ⟨.builtin .append, #[.tmp tx, .tmp tyy], #[t0, t32]⟩, y3, p3, f3, none⟩) rfl hexec ?_
        have hal : Chg (fun _ => False) w (w.drew.alloc (.cells ((List.replicate cap zc).flatten).toArray e)) := (Jw w _).trans (Ua w.drew _ _)
        have k3 := k2.putOff (t := ta) (.slice (some ⟨w.heap.size, 0, none⟩) l0.toNat cap)
        have e5 : gt (b2.put (some ta) (.slice (some ⟨w.heap.size, 0, none⟩) l0.toNat cap)) ta = .slice (some ⟨w.heap.size, 0, none⟩) l0.toNat cap := Yw _ _ _ (by rw [k2.size]; exact Nat.le_of_ble_eq_true g7)
        refine Vr ?_
        rw [Xd, e5]
        have k4 := k3.putOff (t := tb) (.slice (some ⟨w.heap.size, 0, none⟩) l0.toNat cap)
        refine hq (.slice (some ⟨w.heap.size, 0, none⟩) l0.toNat cap) _ _ (fr_of hal) ?_
        refine H.next hal trivial trivial k4 (Yw _ _ _ (by rw [k3.size]; exact Nat.le_of_ble_eq_true g8)) ?_
        refine ⟨l0, s1, _, zc, zs, Xa hl0, hrel, hst, (hzok.turn hal (fun k h => h.elim)).more, by rw [← H.ho.1]; simp, rfl, ⟨fun _ => ⟨w.heap.size, cap, e, rfl, H.lo.2.2.2, by simp, hcap, VI w.drew _ _, rfl, ?_⟩, fun h => absurd hpos h⟩, hzone, hzpos⟩
        exact H.ds.up (fun r hr => ⟨⟨hr.1, Nat.lt_of_lt_of_le hr.2 hal.size⟩, hr.2⟩) (fun r hr => hal.block r hr.2 (fun h => h))
      · have hval' : a.eval q = .bool false := by rw [hval]; simp [hpos]
        refine wp_cond_false hval' (wp_skip (hq v0 a w (fr_of (Chg.refl _ _)) ?_))
        refine H.next (Chg.refl _ _) trivial trivial (H.kn.weak (XB (XB (XB (Xx _ _) (Xx _ _)) (Xx _ _)) (Xx _ _))) hv0 ?_
        refine ⟨l0, s1, v0, zc, zs, Xa hl0, hrel, hst, hzok.more, by rw [← H.ho.1]; simp, rfl, ⟨fun h => absurd h hpos, fun _ => ?_⟩, hzone, hzpos⟩
        cases z with
        | none => exact hz0
        | some zi => exact Xa hz0
  · cases hn
end
end Go.Proofs.YtmihblfjhoblmaaGreatDoor

/- That the reading of code that VQ tells the truth: the loop over a list's elements. Over any program. -/
namespace Go.Proofs.YtmihblfjhoblmaaGreatDoor
open Go Go.RowKit

theorem UY (body : List Ra) (dfl : List D) : ∀ (n : Nat) (s : List UInt8), VJ body dfl (n + 1) s = (VJ body dfl n s).bind fun x => (rdAs body dfl x.2).map fun y => (x.1 ++ [y.1], y.2)
  | 0, s => by
    simp only [VJ, Option.bind_some]
    cases rdAs body dfl s <;> simp
  | n + 1, s => by
    rw [VJ]
    cases h : rdAs body dfl s with
    | none => rw [VJ, h]; rfl
    | some x =>
      simp only [Option.bind_some]
      rw [UY body dfl n x.2, VJ, h]
      simp only [Option.bind_some]
      cases VJ body dfl n x.2 with
      | none => rfl
      | some y =>
        simp only [Option.bind_some, Option.map_some]
        cases rdAs body dfl y.2 <;> simp
theorem Ya4 (body : List Ra) (dfl : List D) (s : List UInt8) (i : Nat) : ∀ (n : Nat), i ≤ n → VJ body dfl i s = none → VJ body dfl n s = none
  | 0, h, e => by
    have : i = 0 := by omega
    subst this; exact e
  | n + 1, h, e => by
    by_cases hi : i ≤ n
    · rw [UY, Ya4 body dfl s i n hi e]; rfl
    · have : i = n + 1 := by omega
      subst this; exact e
/-- What the first i elements come to. -/
def ItR (body : List Ra) (dfl : List D) (i : Nat) (s : List UInt8) (dss : List (List D)) (st : Option (List UInt8)) : Prop := match VJ body dfl i s with
  | some x => st = some x.2 ∧ dss = x.1
  | none => st = none
theorem ItR.step {body : List Ra} {dfl : List Value} {i : Nat} {s : List UInt8} {dss : List (List D)} {st st' : Option (List UInt8)} {ds : List D} (h : ItR body (Xi dfl) i s dss st) (k : OutR body (Xi dfl) st ds st') : ItR body (Xi dfl) (i + 1) s (dss ++ [ds]) st' := by
  unfold ItR at *
  rw [UY]
  have k2 := k.2
  cases hx : VJ body (Xi dfl) i s with
  | none =>
    rw [hx] at h
    simp only [] at h
    subst h
    exact k2
  | some x =>
    rw [hx] at h
    obtain ⟨rfl, rfl⟩ := h
    simp only [] at k2
    simp only [Option.bind_some]
    cases hy : rdAs body (Xi dfl) x.2 with
    | none => rw [hy] at k2; exact k2
    | some y =>
      rw [hy] at k2
      obtain ⟨rfl, rfl⟩ := k2
      exact ⟨rfl, rfl⟩
theorem rep_elD {ok : Nat → Prop} {w : World} {stt : Bool} {ds : List D} {cs : List Value} (h : YX ok w ds cs) : Rep ok w (elD stt ds) cs := by
  unfold elD
  split
  · simpa only [Rep] using h
  · split
    · obtain ⟨c1, c2, rfl, h1, h2⟩ := h
      simp only [YX] at h2
      subst h2
      simpa using h1
    · simpa only [Rep] using h
section
variable {P : Program} {K : Kr} {N g rb sb : Nat} {ev : Value} {k : Nat} {rows : List (Nat × Nat × Nat)} {zs : List (Nat × List Value)} {S : RS} {Ad : List (Nat × Nat)} {R : List Value} {I : List Int} {it : Wi} {sst st0 st : Option (List UInt8)} {a : Act} {w : World}
theorem denW_wide {s : Wd} {v : Value} (Ad' : List (Nat × Nat)) (R' : List Value) (I' : List Int) (h : VS rb Ad R I s = some v) : VS rb (Ad ++ Ad') (R ++ R') (I ++ I') s = some v := by
  cases s with
  | val v => exact h
  | rdr => exact h
  | at_ k o =>
    simp only [VS, Option.map_eq_some_iff] at h ⊢
    obtain ⟨p, hp, e⟩ := h
    exact ⟨p, Xa hp, e⟩
  | res n => exact Xa h
  | idx m =>
    simp only [VS, Option.map_eq_some_iff] at h ⊢
    obtain ⟨p, hp, e⟩ := h
    exact ⟨p, Xa hp, e⟩
theorem KnW.wide {A : WA} (h : KnW N rb a A Ad R I) (Ad' : List (Nat × Nat)) (R' : List Value) (I' : List Int) : KnW N rb a A (Ad ++ Ad') (R ++ R') (I ++ I') := ⟨h.size, h.defers, fun t s e => denW_wide Ad' R' I' (h.at_ t s e)⟩
theorem KnW.back {a' : Act} {A : WA} {Ad' : List (Nat × Nat)} {R' : List Value} {I' : List Int} (h : KnW N rb a A Ad R I) (h' : KnW N rb a' A (Ad ++ Ad') (R ++ R') (I ++ I')) : KnW N rb a' A Ad R I := by
  refine ⟨h'.size, h'.defers, fun t s e => ?_⟩
  have h1 := h.at_ t s e
  have h2 := h'.at_ t s e
  rw [denW_wide Ad' R' I' h1] at h2
  rw [h1, h2]
/-- A loop's head: is its index below the count? -/
theorem head_ok {V : WA} {x1 y1 c1 i1 l1 N : Nat} {r1 : Nat} {t1 u1 ta tb tc : TypeId} {p1 p2 p3 : String} {f1 f2 f3 : Array Edge} {i l : Int} {Q : Exit → Act → World → Prop} (k : KnW N rb a V Ad R I) (hx : lkW V x1 = none) (hy : lkW V y1 = none) (hc : lkW V c1 = none) (bx : Nat.blt x1 N = true) (bY : Nat.blt y1 N = true) (bc : Nat.blt c1 N = true) (hi : gt a i1 = .int .i32 i) (hl : gt a l1 = .int .i32 l)
    (n1 : i1 ≠ x1) (n2 : i1 ≠ y1) (n3 : i1 ≠ c1) (n4 : x1 ≠ y1) (n5 : x1 ≠ l1)
    (hq : ∀ b, KnW N rb b V Ad R I → gt b i1 = .int .i32 i → gt b c1 = .bool (decide (i < l)) → Q .normal b w) :
    (Code.region r1 #[⟨some x1, .move (.tmp i1), ta, p1, f1, none⟩, ⟨some y1, .move (.tmp l1), tb, p2, f2, none⟩, ⟨some c1, .binOp .lss t1 (.tmp x1) (.tmp y1) u1, tc, p3, f3, none⟩] false).wp P Q a w := by
  refine wp_region_lit (Vk ?_)
  rw [Xd, hi]
  have k1 := k.putFree (t := x1) (.int .i32 i) hx
  have e1 : gt (a.put (some x1) (.int .i32 i)) x1 = .int .i32 i := Yw _ _ _ (by rw [k.size]; exact Nat.le_of_ble_eq_true bx)
  have e2 : gt (a.put (some x1) (.int .i32 i)) i1 = .int .i32 i := by rw [Yy _ _ _ _ n1]; exact hi
  have e3 : gt (a.put (some x1) (.int .i32 i)) l1 = .int .i32 l := by rw [Yy _ _ _ _ n5.symm]; exact hl
  generalize a.put (some x1) (.int .i32 i) = b1 at *
  refine Vk ?_
  rw [Xd, e3]
  have k2 := k1.putFree (t := y1) (.int .i32 l) hy
  have d1 : gt (b1.put (some y1) (.int .i32 l)) x1 = .int .i32 i := by rw [Yy _ _ _ _ n4]; exact e1
  have d2 : gt (b1.put (some y1) (.int .i32 l)) y1 = .int .i32 l := Yw _ _ _ (by rw [k1.size]; exact Nat.le_of_ble_eq_true bY)
  have d3 : gt (b1.put (some y1) (.int .i32 l)) i1 = .int .i32 i := by rw [Yy _ _ _ _ n2]; exact e2
  generalize b1.put (some y1) (.int .i32 l) = b2 at *
  refine st_lss d1 d2 ?_
  have k3 := k2.putFree (t := c1) (.bool (decide (i < l))) hc
  exact hq _ k3 (by rw [Yy _ _ _ _ n3]; exact d3) (Yw _ _ _ (by rw [k2.size]; exact Nat.le_of_ble_eq_true bc))
/-- A loop's tail: the next index. -/
theorem tail_ok {V : WA} {u1 w1 i1 N : Nat} {r1 : Nat} {t1 u2 ta tb tc : TypeId} {p1 p2 p3 : String} {f1 f2 f3 : Array Edge} {i : Int} {Q : Exit → Act → World → Prop} (k : KnW N rb a V Ad R I) (hu : lkW V u1 = none) (hw : lkW V w1 = none) (hv : lkW V i1 = none) (bu : Nat.blt u1 N = true) (bw : Nat.blt w1 N = true) (bi : Nat.blt i1 N = true) (hi : gt a i1 = .int .i32 i)
    (hq : ∀ b, KnW N rb b V Ad R I → gt b i1 = .int .i32 (IntKind.i32.wrap (i + 1)) → Q .normal b w) :
    (Code.region r1 #[⟨some u1, .move (.tmp i1), ta, p1, f1, none⟩, ⟨some w1, .binOp .add t1 (.tmp u1) (.const (.int .i32 1)) u2, tb, p2, f2, none⟩, ⟨some i1, .assign (.tmp w1), tc, p3, f3, none⟩] false).wp P Q a w := by
  refine wp_region_lit (Vk ?_)
  rw [Xd, hi]
  have k1 := k.putFree (t := u1) (.int .i32 i) hu
  have e1 : gt (a.put (some u1) (.int .i32 i)) u1 = .int .i32 i := Yw _ _ _ (by rw [k.size]; exact Nat.le_of_ble_eq_true bu)
  generalize a.put (some u1) (.int .i32 i) = b1 at *
  refine st_add e1 (by rfl) ?_
  have k2 := k1.putFree (t := w1) (.int .i32 (IntKind.i32.wrap (i + 1))) hw
  have d1 : gt (b1.put (some w1) (.int .i32 (IntKind.i32.wrap (i + 1)))) w1 = .int .i32 (IntKind.i32.wrap (i + 1)) := Yw _ _ _ (by rw [k1.size]; exact Nat.le_of_ble_eq_true bw)
  generalize b1.put (some w1) (.int .i32 (IntKind.i32.wrap (i + 1))) = b2 at *
  refine Vr ?_
  rw [Xd, d1]
  exact hq _ (k2.putFree _ hv) (Yw _ _ _ (by rw [k2.size]; exact Nat.le_of_ble_eq_true bi))
end
end Go.Proofs.YtmihblfjhoblmaaGreatDoor

/- That the reading of code that VQ tells the truth: the loop over a list's elements, whole. Over any program. -/
namespace Go.Proofs.YtmihblfjhoblmaaGreatDoor
open Go Go.RowKit

section
variable {P : Program} {K : Kr} {N g rb sb : Nat} {ev : Value} {k : Nat} {rows : List (Nat × Nat × Nat)} {zs : List (Nat × List Value)} {S : RS} {Ad : List (Nat × Nat)} {R : List Value} {I : List Int} {it : Wi} {sst st0 st : Option (List UInt8)} {a : Act} {w : World}
theorem loopR_ok {rs id q1 q2 x1 y1 c1 u1 w1 i1 l1 l r : Nat} {t1 u2 t3 u3 ta tb tc td te tf : TypeId} {p1 p2 p3 p4 p5 p6 : String} {f1 f2 f3 f4 f5 f6 : Array Edge} {c : Bool} {z : Option Nat} {zc : List Value} {zs' : List (Nat × List Value)} {V : WA} {S2 : RS} {body : Code} {Q : Exit → Act → World → Prop}
    (H : RAt N g rb sb ev k rows zs S Ad R I it sst st0 st a w) (hpd : S.pd = .made c l z r) (hzs : zs = (r, zc) :: zs') (hlast : Yb3 S.H = true)
    (kV : Yk7 S.A V) (vi : lkW V i1 = none) (vx : lkW V x1 = none) (vy : lkW V y1 = none) (vc : lkW V c1 = none) (vu : lkW V u1 = none) (vw : lkW V w1 = none) (hl1 : lkW V l1 = some (.res l)) (hi0 : lkW S.A i1 = some (.val (.int .i32 0)))
    (bx : Nat.blt x1 N = true) (bY : Nat.blt y1 N = true) (bc : Nat.blt c1 N = true) (bu : Nat.blt u1 N = true) (bw : Nat.blt w1 N = true) (bi : Nat.blt i1 N = true)
    (n1 : i1 ≠ x1) (n2 : i1 ≠ y1) (n3 : i1 ≠ c1) (n4 : x1 ≠ y1) (n5 : x1 ≠ l1)
    (hwi : Yk7 S2.A V) (hidx : lkW S2.A i1 = some (.idx (k + 1))) (hno : S2.pd = .no) (hlenS : S2.cells.length = zc.length)
    (hbody : ∀ (Ad' : List (Nat × Nat)) (R' : List Value) (I' : List Int) (it' : Wi) (st' : Option (List UInt8)) (a' : Act) (w' : World) (Q' : Exit → Act → World → Prop), RAt N g rb sb ev (k + 1) ((k + 1, r, zc.length) :: rows) zs' ⟨(i1, .idx (k + 1)) :: V, S.H, .no, zc.map some, shDs (Xi zc), false, zc, []⟩ Ad' R' I' it' st' st' st' a' w' →
      (∀ R'' it'' st0'' st'' a'' w'', Fr rb it' it'' R' R'' w' w'' → RAt N g rb sb ev (k + 1) ((k + 1, r, zc.length) :: rows) zs' S2 Ad' R'' I' it'' st' st0'' st'' a'' w'' → Q' .normal a'' w'') →
      (∀ a'' w'', Bad N g rb ev rs it' w' a'' w'' → (∀ s, st' = some s → XU S2 s) → Q' .ret a'' w'') → body.wp P Q' a' w')
    (hq : ∀ st' a' w', Fr rb it it R R w w' → RAt N g rb sb ev k rows zs' { S with A := V, pd := .done c z.isSome r S2.st S2.dfl S2.acts } Ad R I it sst st0 st' a' w' → Q .normal a' w')
    (hbad : ∀ a' w', Bad N g rb ev rs it w a' w' → (∀ s, sst = some s → XU { S with A := V, pd := .done c z.isSome r S2.st S2.dfl S2.acts } s) → Q .ret a' w') :
    (Code.block id (.loop (.seq (.seq (.region q1 #[⟨some x1, .move (.tmp i1), ta, p1, f1, none⟩, ⟨some y1, .move (.tmp l1), tb, p2, f2, none⟩, ⟨some c1, .binOp .lss t1 (.tmp x1) (.tmp y1) u2, tc, p3, f3, none⟩] false) (.cond (.tmp c1) .skip (.exit id))) (.seq body (.region q2 #[⟨some u1, .move (.tmp i1), td, p4, f4, none⟩, ⟨some w1, .binOp .add t3 (.tmp u1) (.const (.int .i32 1)) u3, te, p5, f5, none⟩, ⟨some i1, .assign (.tmp w1), tf, p6, f6, none⟩] false))))).wp P Q a w := by
  have hp := H.pd
  rw [hpd] at hp
  obtain ⟨l0, s1, v, zc', rest, hl0, hrel, hst, hzok, hr, hzs', hnew, hone, hpos⟩ := hp
  rw [hzs] at hzs'
  simp only [List.cons.injEq, Prod.mk.injEq, true_and] at hzs'
  obtain ⟨rfl, rfl⟩ := hzs'
  subst hst
  obtain ⟨s0, hs0, hlen0⟩ : ∃ s0, st0 = some s0 ∧ lenP c s0 = some (l0, s1) := by
    cases st0 with
    | none => simp [Um] at hrel
    | some s0 =>
      simp only [Um] at hrel
      split at hrel
      · rename_i x hx
        obtain ⟨e1, e2⟩ := hrel
        simp only [Option.some.injEq] at e1
        exact ⟨s0, rfl, by rw [hx, e1, e2]⟩
      · cases hrel
  have hlt := lenP_lt hlen0
  simp only [] at hlt
  have kn := H.kn.weak kV
  have hgl : ∀ b, KnW N rb b V Ad R I → gt b l1 = .int .i32 l0 := by
    intro b kb
    have := kb.at_ l1 _ hl1
    simp only [VS] at this
    rw [hl0] at this
    simpa using this.symm
  have hgi : gt a i1 = .int .i32 0 := by
    have := H.kn.at_ i1 _ hi0
    simp only [VS, Option.some.injEq] at this
    exact this.symm
  have hrow : rowP c z.isSome S2.st S2.dfl S2.acts s0 = (VJ S2.acts (Xi S2.dfl) l0.toNat s1).map fun y =>
    (if z.isSome then (if l0 < 0 then .sl true [] else .sl false (y.1.map (elD S2.st))) else .sq (y.1.map (elD S2.st)), y.2) := by
    simp only [rowP, hlen0, Option.bind_some]
  have hlo := H.lo
  have hne := H.ne
  have hglb := H.gl
  have fin : ∀ (d : D) (stf : Option (List UInt8)) (af : Act) (wf : World), KnW N rb af V Ad R I → Chg (fun j => j = rb ∨ it.lo ≤ j) w wf → v.cells = #[v] → v.oneCell' = true → Rep (Dk sb it.lo wf) wf d [v] → shD d = [.sl] → (match rowP c z.isSome S2.st S2.dfl S2.acts s0 with
      | some x => stf = some x.2 ∧ d = x.1
      | none => stf = none) → Rdr wf rb sb stf → YX (Dk sb it.lo wf) wf it.ds it.cs → Q .normal af wf := by
    intro d stf af wf kf hc hv1 hv2 hd hsd hrr hrd hds
    refine hq stf af wf ⟨rfl, rfl, rfl, rfl, rfl, hc.wide (fun j hj => by rcases hj with h | h; exact .inl h; exact .inr (.inr h)), [], by simp⟩ ⟨kf, H.ho, ?_, H.ad, H.lens, H.row, ?_, hds, H.cl, H.sh, H.cells, hrd, ?_, H.fresh, H.rel, ⟨hlo.1, hlo.2.1, hlo.2.2.1, Nat.le_trans hlo.2.2.2 hc.size⟩, H.ne, ?_⟩
    · intro h u hh hu
      unfold Yb3 at hlast
      simp only [] at hh
      split at hlast
      · rename_i n hx
        rw [hx] at hh
        cases hh
        trivial
      · cases hlast
    · exact H.box.chg hc (by rintro (h | h); exact hne.2.1 h; omega)
    · refine ⟨v, d, hr, hv1, hv2, hd, hsd, ?_⟩
      rw [hs0]
      exact hrr
    · refine ⟨?_, H.gl.2⟩
      have h1 := H.gl.1
      have hg : wf.heap[g]? = w.heap[g]? := hc.block g (by omega) (by rintro (h | h); exact hglb.2.1 h; omega)
      simp only [World.cell?] at h1 ⊢
      rw [hg]; exact h1
  by_cases hpl : 0 < l0
  · obtain ⟨hb, cap, e, rfl, hbl, hbw, hcap, hbox, _, hreps⟩ := hnew.1 hpl
    obtain ⟨m, hm⟩ : ∃ m : Nat, l0 = (m : Int) := ⟨l0.toNat, by omega⟩
    subst hm
    simp only [Int.toNat_natCast] at hcap hrow
    refine wp_block (wp_loop_ghost (fun n a' w' => ∃ i sti dss cells, i ≤ m ∧ n = m - i ∧ KnW N rb a' V Ad R I ∧ gt a' i1 = .int .i32 (i : Int) ∧ Chg (fun j => j = rb ∨ hb ≤ j) w w' ∧ Box w' hb (cells ++ (List.replicate (cap - i) zc).flatten) e ∧ cells.length = i * zc.length ∧ dss.length = i ∧ YX (Dk sb (hb + 1) w') w' (dss.map (elD S2.st)) cells ∧ Rdr w' rb sb sti ∧ ItR S2.acts (Xi S2.dfl) i s1 dss sti)
      m ⟨0, some s1, [], [], Nat.zero_le _, rfl, kn, hgi, Chg.refl _ _, by simpa using hbox, by simp, rfl, by simp [YX], H.rdr, by simp [ItR, VJ]⟩ ?_)
    rintro n a' w' ⟨i, sti, dss, cells, hi, rfl, k', hgi', hc', hbox', hcl, hdl, hrp, hrd, hit⟩
    have hsz := hc'.size
    refine wp_seq (wp_seq (head_ok k' vx vy vc bx bY bc hgi' (hgl a' k') n1 n2 n3 n4 n5 (fun b kb hbi hbc => ?_)))
    by_cases hlt' : i < m
    · have hd1 : decide ((i : Int) < (m : Int)) = true := by simpa using hlt'
      rw [hd1] at hbc
      refine wp_cond_true hbc (wp_skip (wp_seq ?_))
      have hxs : cap - i = (cap - i - 1) + 1 := by omega
      rw [hxs, List.replicate_succ, List.flatten_cons, ← List.append_assoc] at hbox'
      have hbw' := hbox'.lt
      have hgne : g ≠ hb := by omega
      have HB : RAt N g rb sb ev (k + 1) ((k + 1, r, zc.length) :: rows) zs' ⟨(i1, .idx (k + 1)) :: V, S.H, .no, zc.map some, shDs (Xi zc), false, zc, []⟩ (Ad ++ [(hb, cells.length)]) R (I ++ [(i : Int)]) ⟨hb, w'.heap.size, cells, (List.replicate (cap - i - 1) zc).flatten, zc, e, Xi zc⟩ sti sti sti b w' := by
        refine ⟨?_, H.ho, ?_, ?_, ?_, ?_, hbox', Vc _, ?_, ⟨rfl, ?_⟩, ?_, hrd, rfl, fun _ => ⟨rfl, rfl⟩, ⟨rfl, ?_⟩, ⟨hbw', by simp only []; omega, by simp only []; omega, Nat.le_refl _⟩, ⟨hne.1, by simp only []; omega, by simp only []; omega⟩, ⟨?_, hglb.2.1, by simp only []; omega, hgne⟩⟩
        · have := (kb.wide [(hb, cells.length)] [] [(i : Int)]).know (t := i1) (s := .idx (k + 1)) (by
            simp only [VS]
            rw [List.getElem?_append_right (by rw [H.lens.2]; exact Nat.le_refl _), H.lens.2, Nat.sub_self, hbi]
            rfl)
          rw [List.append_nil] at this
          exact this
        · intro h u hh hu
          unfold Yb3 at hlast
          simp only [] at hh
          split at hlast
          · rename_i n hx
            rw [hx] at hh
            cases hh
            trivial
          · cases hlast
        · rw [List.getElem?_append_right (by rw [H.lens.1]; exact Nat.le_refl _), H.lens.1, Nat.sub_self]; rfl
        · simp [H.lens.1, H.lens.2]
        · intro q rest' hq1 hq2
          simp only [List.cons.injEq] at hq1
          obtain ⟨rfl, rfl⟩ := hq1
          refine ⟨_, cap, i, hr, ?_, hcl, by simpa using hlt'⟩
          rw [List.getElem?_append_right (by rw [H.lens.2]; exact Nat.le_refl _), H.lens.2, Nat.sub_self]; rfl
        · simp
        · intro d hd
          simp only [Xi, List.mem_map] at hd
          obtain ⟨u, _, rfl⟩ := hd
          rfl
        · intro j u hj
          simp only [List.getElem?_map, Option.map_eq_some_iff] at hj
          obtain ⟨u', hu, he⟩ := hj
          cases he
          exact hu
        · cases sti with
          | none => rfl
          | some s => simp [rdAs]
        · have h1 := H.gl.1
          have hg : w'.heap[g]? = w.heap[g]? := hc'.block g (by omega) (by rintro (h | h); exact hglb.2.1 h; omega)
          simp only [World.cell?] at h1 ⊢
          rw [hg]; exact h1
      refine hbody _ _ _ _ _ _ _ _ HB ?_ ?_
      · intro R'' it'' st0'' st'' a2 w2 f2 H2
        obtain ⟨X, hX⟩ := f2.more
        subst hX
        have k2 : KnW N rb a2 V Ad R I := KnW.back k' (H2.kn.weak hwi)
        have hgi2 : gt a2 i1 = .int .i32 (i : Int) := by
          have := H2.kn.at_ i1 _ hidx
          simp only [VS] at this
          rw [List.getElem?_append_right (by rw [H.lens.2]; exact Nat.le_refl _), H.lens.2, Nat.sub_self] at this
          simpa using this.symm
        have hwrap : IntKind.i32.wrap ((i : Int) + 1) = ((i + 1 : Nat) : Int) := by rw [IntKind.wrap_i32]; omega
        have hpd2 := H2.pd
        rw [hno] at hpd2
        have hst2 : st'' = st0'' := hpd2
        subst hst2
        refine tail_ok k2 vu vw vi bu bw bi hgi2 (fun b2 kb2 hb2 => ?_)
        rw [hwrap] at hb2
        have hcs2 : it''.cs.length = zc.length := by rw [← H2.cl]; exact hlenS
        have hf2 := f2.chg
        simp only [] at hf2
        have hbx2 := H2.box
        rw [f2.b, f2.pre, f2.post, f2.e] at hbx2
        simp only [] at hbx2
        have hlo2 : it''.lo = w'.heap.size := f2.lo
        refine ⟨m - (i + 1), by omega, i + 1, st'', dss ++ [it''.ds], cells ++ it''.cs, hlt', rfl, kb2, hb2, ?_, ?_, ?_, by simp [hdl], ?_, H2.rdr, hit.step H2.rel⟩
        · exact hc'.trans (hf2.wide (fun j hj => by rcases hj with h | h | h; exact .inl h; exact .inr (by omega); exact .inr (by omega)))
        · rw [show cap - (i + 1) = cap - i - 1 by omega]; exact hbx2
        · rw [List.length_append, hcl, hcs2, Nat.add_mul]; omega
        · rw [List.map_append]
          refine (YX.app _ _ _).2 ⟨cells, it''.cs, rfl, ?_, ?_⟩
          · exact hrp.up (fun r' hr' => ⟨hr'.1, Nat.lt_of_lt_of_le hr'.2 hf2.size⟩) (fun r' hr' => hf2.block r' hr'.2 (by
              have := hr'.1
              have := hr'.2
              rintro (h | h | h) <;> omega))
          · refine ⟨it''.cs, [], by simp, rep_elD ?_, rfl⟩
            have hd2 := H2.ds
            rw [hlo2] at hd2
            exact hd2.up (fun r' hr' => ⟨by rcases hr'.1 with h | h; exact .inl h; exact .inr (by omega), hr'.2⟩) (fun _ _ => rfl)
      · intro a2 w2 hB hF
        obtain ⟨b1, b2, b3, b4, b5⟩ := hB
        refine hbad a2 w2 ⟨b1, b2, ?_, b4, b5⟩ ?_
        · exact (hc'.trans (b3.wide (fun j hj => by simp only [] at hj; rcases hj with h | h | h; exact .inl h; exact .inr (by omega); exact .inr (by omega)))).wide (fun j hj => by rcases hj with h | h; exact .inl h; exact .inr (.inr (by omega)))
        · intro s hs x hx
          simp only [] at hx ⊢
          have hrl := H.rel.2
          rw [hs] at hrl
          simp only [hx] at hrl
          have : s0 = x.2 := by
            have := hs0.symm.trans hrl.1
            simpa using this
          subst this
          rw [hrow]
          have hnn : VJ S2.acts (Xi S2.dfl) m s1 = none := by
            unfold ItR at hit
            cases hy : VJ S2.acts (Xi S2.dfl) i s1 with
            | none => exact Ya4 _ _ _ i m hi hy
            | some y =>
              rw [hy] at hit
              refine Ya4 _ _ _ (i + 1) m hlt' ?_
              rw [UY, hy]
              simp only [Option.bind_some]
              have := hF y.2 hit.1
              unfold XU at this
              rw [hno] at this
              cases hz : rdAs S2.acts (Xi S2.dfl) y.2 with
              | none => rfl
              | some u => exact (this u hz).elim
          rw [hnn]; rfl
    · have hd1 : decide ((i : Int) < (m : Int)) = false := by simpa using hlt'
      rw [hd1] at hbc
      have : i = m := by omega
      subst this
      refine wp_cond_false hbc (wp_exit ?_)
      show (if id = id then _ else _)
      rw [if_pos rfl]
      have hcells : YL w' hb 0 cells := hbox'.cells.left
      have hok : ∀ r', Dk sb (hb + 1) w' r' → Dk sb it.lo w' r' := fun r' hr' => ⟨by rcases hr'.1 with h | h; exact .inl h; exact .inr (by omega), hr'.2⟩
      have hrp' := hrp.up hok (fun _ _ => rfl)
      have hdk : Dk sb it.lo w' hb := ⟨.inr hbl, by omega⟩
      have hds : YX (Dk sb it.lo w') w' it.ds it.cs := hreps.up (fun r' hr' => ⟨hr'.1.1, by have := hr'.1.2; omega⟩) (fun r' hr' => hc'.block r' hr'.1.2 (by
        have h1 := hr'.1.1
        have h2 := hr'.2
        rintro (h | h) <;> omega))
      refine fin (if z.isSome then .sl false (dss.map (elD S2.st)) else .sq (dss.map (elD S2.st))) sti b w' kb (hc'.wide (fun j hj => by rcases hj with h | h; exact .inl h; exact .inr (by omega))) rfl rfl ?_ ?_ ?_ hrd hds
      · cases z with
        | none => exact ⟨some ⟨hb, 0, none⟩, cap, by simp [hdl], by simpa [hdl] using hcap, .inr ⟨hb, 0, cells, rfl, hdk, hcells, hrp'⟩⟩
        | some zi => exact ⟨some ⟨hb, 0, none⟩, cap, by simp [hdl], by simpa [hdl] using hcap, (fun h => by cases h), fun _ => ⟨hb, 0, cells, rfl, hdk, hcells, hrp'⟩⟩
      · cases z <;> rfl
      · rw [hrow]
        unfold ItR at hit
        cases hy : VJ S2.acts (Xi S2.dfl) i s1 with
        | none => rw [hy] at hit; exact hit
        | some y =>
          rw [hy] at hit
          obtain ⟨h1, rfl⟩ := hit
          simp only [Option.map_some]
          refine ⟨h1, ?_⟩
          rw [if_neg (by omega : ¬ ((i : Int) < 0))]
  · have hm0 : l0.toNat = 0 := by omega
    rw [hm0] at hrow
    simp only [VJ, Option.map_some, List.map_nil] at hrow
    have hdone : ∀ b, KnW N rb b V Ad R I → Q .normal b w := by
      intro b kb
      have hv := hnew.2 hpl
      cases z with
      | none =>
        simp only [] at hv
        subst hv
        refine fin (.sq []) (some s1) b w kb (Chg.refl _ _) rfl rfl ⟨none, 0, rfl, Nat.le_refl _, .inl rfl⟩ rfl ?_ H.rdr H.ds
        rw [hrow]; exact ⟨rfl, rfl⟩
      | some zi =>
        simp only [] at hv
        by_cases h0 : l0 = 0
        · obtain ⟨bb, hz, hdk, hcz⟩ := hzok.2 h0
          rw [hv] at hz
          simp only [Option.some.injEq] at hz
          subst hz
          refine fin (.sl false []) (some s1) b w kb (Chg.refl _ _) rfl rfl ⟨some ⟨bb, 0, none⟩, 0, rfl, Nat.le_refl _, (fun h => by cases h), fun _ => ⟨bb, 0, [], rfl, hdk, hcz, rfl⟩⟩ rfl ?_ H.rdr H.ds
          rw [hrow]; simp [h0]
        · have hz := hzok.1 h0
          rw [hv] at hz
          simp only [Option.some.injEq] at hz
          subst hz
          refine fin (.sl true []) (some s1) b w kb (Chg.refl _ _) rfl rfl ⟨none, 0, rfl, Nat.le_refl _, fun _ => ⟨rfl, rfl, rfl⟩, (fun h => by cases h)⟩ rfl ?_ H.rdr H.ds
          rw [hrow]
          have : l0 < 0 := by omega
          simp [this]
    refine wp_block (wp_loop_ghost (fun n a' w' => n = 0 ∧ a' = a ∧ w' = w) 0 ⟨rfl, rfl, rfl⟩ ?_)
    rintro n a' w' ⟨rfl, rfl, rfl⟩
    refine wp_seq (wp_seq (head_ok kn vx vy vc bx bY bc hgi (hgl _ kn) n1 n2 n3 n4 n5 (fun b kb hbi hbc => ?_)))
    rw [decide_eq_false hpl] at hbc
    refine wp_cond_false hbc (wp_exit ?_)
    show (if id = id then _ else _)
    rw [if_pos rfl]
    exact hdone b kb
end
end Go.Proofs.YtmihblfjhoblmaaGreatDoor

/- That the reading of code that VQ tells the truth. Over any program. -/
namespace Go.Proofs.YtmihblfjhoblmaaGreatDoor
open Go Go.RowKit

section
variable {P : Program} {K : Kr} {N g rb sb : Nat} {ev : Value} {k : Nat} {rows : List (Nat × Nat × Nat)} {zs : List (Nat × List Value)} {S : RS} {Ad : List (Nat × Nat)} {R : List Value} {I : List Int} {it : Wi} {sst st0 st : Option (List UInt8)} {a : Act} {w : World}
theorem failsAt (H : RAt N g rb sb ev k rows zs S Ad R I it sst st0 none a w) : ∀ s, sst = some s → XU S s := by
  rintro s rfl x hx
  have hr := H.rel.2
  simp only [hx] at hr
  obtain ⟨rfl, _⟩ := hr
  have hp := H.pd
  split
  · rename_i e; rw [e] at hp; cases hp
  · rename_i e; rw [e] at hp
    obtain ⟨_, _, _, _, _, _, _, _, h⟩ := hp
    simp only [] at h
    split at h
    · cases h.1
    · assumption
  · rename_i e; rw [e] at hp
    obtain ⟨_, _, h, _⟩ := hp
    simp only [Um] at h
    split at h
    · cases h.1
    · assumption
  · rename_i e; rw [e] at hp
    obtain ⟨_, _, _, _, h, _⟩ := hp
    cases h
  · rename_i e; rw [e] at hp
    obtain ⟨_, _, _, _, _, _, _, h, _⟩ := hp
    cases h
  · rename_i e; rw [e] at hp
    obtain ⟨_, _, _, _, _, _, _, h⟩ := hp
    simp only [] at h
    split at h
    · cases h.1
    · assumption
  · rename_i e; rw [e] at hp
    obtain ⟨_, _, _, _, _, h⟩ := hp
    simp only [Yf8] at h
    split at h
    · cases h.1
    · assumption
  · rename_i e; rw [e] at hp
    obtain ⟨_, _, _, _, _, _, _, hr, _⟩ := hp
    have h := hr.2.2
    simp only [] at h
    split at h
    · cases h.1
    · assumption
theorem fails_ok {S : RS} {c : Bool} {l : Nat} {z : Option Nat} {s : List UInt8} (h : XU S s) (hp : S.pd = .len c l z) : XU { S with pd := .ok c l z } s := by
  intro x hx
  have := h x hx
  rw [hp] at this
  exact this
theorem fails_lz {S : RS} {c : Bool} {l : Nat} {z : Option Nat} {s : List UInt8} (h : XU S s) (hp : S.pd = .len c l z) (A : WA) (H : List Hi) (z' : Option Nat) : XU { S with A := A, H := H, pd := .len c l z' } s := by
  intro x hx
  have := h x hx
  rw [hp] at this
  exact this
theorem fails_lp {S : RS} {c : Bool} {l r : Nat} {z z' : Option Nat} {s : List UInt8} (h : XU S s) (hp : S.pd = .ok c l z) (A : WA) (H : List Hi) : XU { S with A := A, H := H, pd := .made c l z' r } s := by
  intro x hx
  have := h x hx
  rw [hp] at this
  exact this
theorem fails_done {S : RS} {c : Bool} {l r : Nat} {z : Option Nat} {s : List UInt8} (h : XU S s) (hp : S.pd = .made c l z r) (A : WA) (nb stt : Bool) (dfl : List Value) (body : List Ra) : XU { S with A := A, pd := .done c nb r stt dfl body } s := by
  intro x hx
  have := h x hx
  rw [hp] at this
  simp only [] at this ⊢
  simp only [rowP, this, Option.bind_none]
theorem condR_fails {rs h : Nat} {a b : Code} {x : RS × List (Nat × List Value)} (e : condR K P N rs zs S h a b = some x) : ∀ s, XU S s → XU x.1 s := by
  intro s hf
  unfold condR at e
  split at e
  · rename_i c l z hh hpd
    cases hb : Nat.beq (h + 1) S.H.length && badR K P N rs S a with
    | false => rw [hb] at e; cases e
    | true =>
      rw [hb] at e
      cases e
      exact fails_ok hf hpd
  · rename_i hh hpd
    cases hb : Nat.beq _ _ with
    | false => rw [hb] at e; cases e
    | true =>
      rw [hb] at e
      simp only [cond_true] at e
      split at e
      · cases e
        exact fails_lz hf hpd _ _ _
      · cases e
  · rename_i hh hpd
    cases hb : Nat.beq _ _ with
    | false => rw [hb] at e; cases e
    | true =>
      rw [hb] at e
      simp only [cond_true] at e
      split at e
      · split at e
        · cases hz : optEq _ _ with
          | false => rw [hz] at e; cases e
          | true =>
            rw [hz] at e
            cases e
            exact fails_lp hf hpd _ _
        · cases e
      · cases e
  · cases e
theorem runR_fails {rs : Nat} : ∀ (n k : Nat) (rows : List (Nat × Nat × Nat)) (zs : List (Nat × List Value)) (S : RS) (c : Code) (S' : RS) (zs' : List (Nat × List Value)) (e : Bool), runR K P N rs n k rows zs S c = some (S', zs', e) → ∀ s, XU S s → XU S' s := by
  intro n
  induction n with
  | zero => intro k rows zs S c S' zs' e h; simp [runR] at h
  | succ n ih =>
    intro k rows zs S c S' zs' e h s hf
    unfold runR at h
    split at h
    · cases h; exact hf
    · split at h
      · split at h
        · cases hb : Nat.beq _ S.H.length && Nat.beq k 0 with
          | false => rw [hb] at h; cases h
          | true => rw [hb] at h; cases h; exact hf
        · cases h
      · cases h
    · split at h
      · rename_i S1 hx
        cases h
        exact opsR_fails _ _ hx hf
      · cases h
    · split at h
      · rename_i S1 zs1 h1
        exact ih _ _ _ _ _ _ _ _ h s (ih _ _ _ _ _ _ _ _ h1 s hf)
      · rename_i S1 zs1 h1
        cases h
        exact ih _ _ _ _ _ _ _ _ h1 s hf
      · cases h
    · split at h
      · exact ih _ _ _ _ _ _ _ _ h s hf
      · exact ih _ _ _ _ _ _ _ _ h s hf
      · split at h
        · rename_i x hx
          cases h
          exact condR_fails hx s hf
        · cases h
      · cases h
    · split at h
      · split at h
        · rename_i hpd
          cases hb : Nat.beq _ _ && isRes _ _ _ && i0 _ _ && Yb3 S.H with
          | false => rw [hb] at h; cases h
          | true =>
            rw [hb] at h
            simp only [cond_true] at h
            split at h
            · cases hc : bodyOk _ _ _ _ _ with
              | false => rw [hc] at h; cases h
              | true =>
                rw [hc] at h
                cases h
                exact fails_done hf hpd _ _ _ _ _
            · cases h
        · cases h
      · split at h
        · rename_i S1 zs1 h1
          cases h
          exact ih _ _ _ _ _ _ _ _ h1 s hf
        · cases h
    · cases h
end
end Go.Proofs.YtmihblfjhoblmaaGreatDoor

/- That the reading of code that VQ tells the truth: the whole. Over any program. -/
namespace Go.Proofs.YtmihblfjhoblmaaGreatDoor
open Go Go.RowKit

theorem Ya6 {p q : Nat} (h : (!Nat.beq p q) = true) : p ≠ q := by
  rintro rfl
  rw [Nat.beq_refl] at h; cases h
theorem loopPat_out {N id : Nat} {b : Code} {q : Lp} (h : loopPat N id b = some q) : ∃ (r1 r2 : Nat) (t1 u2 t3 u3 ta tb tc td te tf : TypeId) (p1 p2 p3 p4 p5 p6 : String) (f1 f2 f3 f4 f5 f6 : Array Edge),
    b = .loop (.seq (.seq (.region r1 #[⟨some q.x, .move (.tmp q.i), ta, p1, f1, none⟩, ⟨some q.y, .move (.tmp q.l), tb, p2, f2, none⟩, ⟨some q.c, .binOp .lss t1 (.tmp q.x) (.tmp q.y) u2, tc, p3, f3, none⟩] false) (.cond (.tmp q.c) .skip (.exit id))) (.seq q.body (.region r2 #[⟨some q.u, .move (.tmp q.i), td, p4, f4, none⟩, ⟨some q.w, .binOp .add t3 (.tmp q.u) (.const (.int .i32 1)) u3, te, p5, f5, none⟩, ⟨some q.i, .assign (.tmp q.w), tf, p6, f6, none⟩] false))) ∧
    (Nat.blt q.x N = true ∧ Nat.blt q.y N = true ∧ Nat.blt q.c N = true ∧ Nat.blt q.u N = true ∧ Nat.blt q.w N = true ∧ Nat.blt q.i N = true) ∧ q.i ≠ q.x ∧ q.i ≠ q.y ∧ q.i ≠ q.c ∧ q.x ≠ q.y ∧ q.x ≠ q.l := by
  unfold loopPat at h
  split at h
  · rename_i r1 x1 i1 ta p1 f1 y1 l1 tb p2 f2 c1 t1 x2 y2 u2 tc p3 f3 c2 id2 body r2 u1 i2 td p4 f4 w1 t3 uu2 u3 te p5 f5 i3 w2 tf p6 f6
    cases hc : Nat.beq i1 i2 && Nat.beq i1 i3 && Nat.beq x1 x2 && Nat.beq y1 y2 && Nat.beq c1 c2 && Nat.beq u1 uu2 && Nat.beq w1 w2 && Nat.beq id id2 && Nat.blt x1 N && Nat.blt y1 N && Nat.blt c1 N && Nat.blt u1 N && Nat.blt w1 N && Nat.blt i1 N && !Nat.beq i1 x1 && !Nat.beq i1 y1 && !Nat.beq i1 c1 && !Nat.beq x1 y1 && !Nat.beq x1 l1 with
    | false => rw [hc] at h; cases h
    | true =>
      rw [hc] at h
      simp only [cond_true, Option.some.injEq] at h
      subst h
      simp only [Bool.and_eq_true] at hc
      obtain ⟨⟨⟨⟨⟨⟨⟨⟨⟨⟨⟨⟨⟨⟨⟨⟨⟨⟨g1, g2⟩, g3⟩, g4⟩, g5⟩, g6⟩, g7⟩, g8⟩, g9⟩, g10⟩, g11⟩, g12⟩, g13⟩, g14⟩, g15⟩, g16⟩, g17⟩, g18⟩, g19⟩ := hc
      have := Ys g1; subst this
      have := Ys g2; subst this
      have := Ys g3; subst this
      have := Ys g4; subst this
      have := Ys g5; subst this
      have := Ys g6; subst this
      have := Ys g7; subst this
      have := Ys g8; subst this
      exact ⟨r1, r2, t1, u2, t3, u3, ta, tb, tc, td, te, tf, p1, p2, p3, p4, p5, p6, f1, f2, f3, f4, f5, f6, rfl, ⟨g9, g10, g11, g12, g13, g14⟩, Ya6 g15, Ya6 g16, Ya6 g17, Ya6 g18, Ya6 g19⟩
  · cases h
theorem isRes_out {A : WA} {s l : Nat} (h : isRes A s l = true) : lkW A s = some (.res l) := by
  unfold isRes at h
  split at h
  · rename_i n hn; rw [hn, Ys h]
  · cases h
theorem isIdx_out {A : WA} {s l : Nat} (h : isIdx A s l = true) : lkW A s = some (.idx l) := by
  unfold isIdx at h
  split at h
  · rename_i n hn; rw [hn, Ys h]
  · cases h
theorem i0_out {A : WA} {t : Nat} (h : i0 A t = true) : lkW A t = some (.val (.int .i32 0)) := by
  unfold i0 at h
  split at h
  · assumption
  · cases h
theorem isNo_out {p : Pd} (h : isNo p = true) : p = .no := by cases p <;> first | rfl | cases h
theorem XW (A : WA) (t : Nat) : lkW (Va A t) t = none := by rw [Ye4, if_pos rfl]
theorem YP {A : WA} {t u : Nat} (h : lkW A u = none) : lkW (Va A t) u = none := by
  rw [Ye4]
  split
  · rfl
  · exact h
theorem loopW_less (A : WA) (q : Lp) : Yk7 A (JH A q) :=
  XB (XB (XB (XB (XB (XB (lessW_kept A) (Xx _ _)) (Xx _ _)) (Xx _ _)) (Xx _ _)) (Xx _ _)) (Xx _ _)
theorem Bad.wide {N g rb rs : Nat} {ev : Value} {it it' : Wi} {R R' : List Value} {w w' : World} (f : Fr rb it it' R R' w w') {a2 : Act} {w2 : World} (h : Bad N g rb ev rs it' w' a2 w2) : Bad N g rb ev rs it w a2 w2 := by
  obtain ⟨b1, b2, b3, b4, b5⟩ := h
  exact ⟨b1, b2, f.chg.trans (b3.wide (fun j hj => by rw [f.b, f.lo] at hj; exact hj)), b4, b5⟩
section
variable {P : Program} {K : Kr} {N g rb sb : Nat} {ev : Value}
theorem zs_free {k : Nat} {rows : List (Nat × Nat × Nat)} {zs zs' : List (Nat × List Value)} {S : RS} {Ad : List (Nat × Nat)} {R : List Value} {I : List Int} {it : Wi} {sst st0 st : Option (List UInt8)} {a : Act} {w : World} (H : RAt N g rb sb ev k rows zs S Ad R I it sst st0 st a w) (h : S.pd = .no) : RAt N g rb sb ev k rows zs' S Ad R I it sst st0 st a w := by
  have hp := H.pd
  refine ⟨H.kn, H.ho, H.last, H.ad, H.lens, H.row, H.box, H.ds, H.cl, H.sh, H.cells, H.rdr, ?_, H.fresh, H.rel, H.lo, H.ne, H.gl⟩
  rw [h] at hp ⊢
  exact hp
theorem condR_ok (hK : KrOk P K g ev) {k : Nat} {rows : List (Nat × Nat × Nat)} {zs : List (Nat × List Value)} {S : RS} {Ad : List (Nat × Nat)} {R : List Value} {I : List Int} {it : Wi} {sst st0 st : Option (List UInt8)} {a : Act} {w : World}
    {rs h : Nat} {q : Operand} {c d : Code} {x : RS × List (Nat × List Value)} (hq0 : evW S.A q = some (.res h)) (e : condR K P N rs zs S h c d = some x) (H : RAt N g rb sb ev k rows zs S Ad R I it sst st0 st a w) {Q : Exit → Act → World → Prop}
    (hq : ∀ R' it' st0' st' a' w', Fr rb it it' R R' w w' → RAt N g rb sb ev k rows x.2 x.1 Ad R' I it' sst st0' st' a' w' → Q .normal a' w')
    (hbad : ∀ a' w', Bad N g rb ev rs it w a' w' → (∀ s, sst = some s → XU x.1 s) → Q .ret a' w') : (Code.cond q c d).wp P Q a w := by
  unfold condR at e
  split at e
  · rename_i cc l z hh hpd
    cases hb : Nat.beq (h + 1) S.H.length && badR K P N rs S c with
    | false => rw [hb] at e; cases e
    | true =>
      rw [hb] at e
      simp only [cond_true, Option.some.injEq] at e
      subst e
      rw [Bool.and_eq_true] at hb
      have hlen := Ys hb.1
      have hv := H.kn.eval hq0
      simp only [VS] at hv
      have hl := H.last .nok (a.eval q) (by rw [← hlen, Nat.add_sub_cancel]; exact hh) (by rw [← hlen, Nat.add_sub_cancel]; exact hv)
      simp only [LastV] at hl
      cases st with
      | none =>
        refine wp_cond_true (by rw [hl]; rfl) (badR_ok hK H hb.2 rfl (fun a' w' hB => hbad a' w' hB ?_))
        exact fun s hs => fails_ok (failsAt H s hs) hpd
      | some s1 =>
        refine wp_cond_false (by rw [hl]; rfl) (wp_skip (hq R it st0 (some s1) a w (Fr.refl _ _ _ _) ?_))
        have hp := H.pd
        rw [hpd] at hp
        obtain ⟨l0, h1, h2, h3⟩ := hp
        exact ⟨H.kn, H.ho, H.last, H.ad, H.lens, H.row, H.box, H.ds, H.cl, H.sh, H.cells, H.rdr, ⟨l0, s1, h1, h2, rfl, h3⟩, H.fresh, H.rel, H.lo, H.ne, H.gl⟩
  · rename_i l' cc l hh hpd
    cases hb : Nat.beq l l' with
    | false => rw [hb] at e; cases e
    | true =>
      rw [hb] at e
      have := Ys hb; subst this
      simp only [cond_true] at e
      split at e
      · rename_i t u hn
        simp only [Option.some.injEq] at e
        subst e
        exact lz_ok H hq0 hh hpd hn (fun v a' w' f H' => hq _ _ _ _ a' w' f H')
      · cases e
  · rename_i l' cc l z hh hpd
    cases hb : Nat.beq l l' with
    | false => rw [hb] at e; cases e
    | true =>
      rw [hb] at e
      have := Ys hb; subst this
      simp only [cond_true] at e
      split at e
      · rename_i t xx y u z' ty hn hty
        split at e
        · rename_i zc hzc
          cases hz : optEq z z' with
          | false => rw [hz] at e; cases e
          | true =>
            rw [hz] at e
            simp only [cond_true, Option.some.injEq] at e
            subst e
            exact lp_ok H hq0 hh hpd hn hty hzc hz (fun v a' w' f H' => hq _ _ _ _ a' w' f H')
        · cases e
      · cases e
  · cases e
theorem runR_ok (hK : KrOk P K g ev) {rs : Nat} : ∀ (n k : Nat) (rows : List (Nat × Nat × Nat)) (zs : List (Nat × List Value)) (S : RS) (c : Code) (S' : RS) (zs' : List (Nat × List Value)) (e : Bool), runR K P N rs n k rows zs S c = some (S', zs', e) →
    ∀ (Ad : List (Nat × Nat)) (R : List Value) (I : List Int) (it : Wi) (sst st0 st : Option (List UInt8)) (a : Act) (w : World) (Q : Exit → Act → World → Prop), RAt N g rb sb ev k rows zs S Ad R I it sst st0 st a w →
      (∀ R' it' st0' st' a' w', Fr rb it it' R R' w w' → RAt N g rb sb ev k rows zs' S' Ad R' I it' sst st0' st' a' w' → (e = true → S'.pd = .no ∧ gt a' rs = endV ev st') → Q (if e then .ret else .normal) a' w') →
      (∀ a' w', Bad N g rb ev rs it w a' w' → (∀ s, sst = some s → XU S' s) → Q .ret a' w') → c.wp P Q a w := by
  intro n
  induction n with
  | zero => intro k rows zs S c S' zs' e h; simp [runR] at h
  | succ n ih =>
    intro k rows zs S c S' zs' e h Ad R I it sst st0 st a w Q H hq hbad
    unfold runR at h
    split at h
    · cases h
      exact wp_skip (hq R it st0 st a w (Fr.refl _ _ _ _) H (fun h => by cases h))
    · split at h
      · rename_i e0 hpd hrs
        split at h
        · rename_i her
          cases hb : Nat.beq (e0 + 1) S.H.length && Nat.beq k 0 with
          | false => rw [hb] at h; cases h
          | true =>
            rw [hb] at h
            cases h
            rw [Bool.and_eq_true] at hb
            have hlen := Ys hb.1
            have hv := H.kn.at_ rs _ hrs
            simp only [VS] at hv
            have hl := H.last .er (gt a rs) (by rw [← hlen, Nat.add_sub_cancel]; exact her) (by rw [← hlen, Nat.add_sub_cancel]; exact hv)
            exact wp_ret (hq R it st0 st a w (Fr.refl _ _ _ _) H (fun _ => ⟨hpd, hl⟩))
        · cases h
      · cases h
    · split at h
      · rename_i S1 hx
        cases h
        refine wp_region_lit (opsR_ok hK _ _ hx H (fun R' it' st0' st' a' w' f H' => hq R' it' st0' st' a' w' f H' (fun h => by cases h)))
      · cases h
    · split at h
      · rename_i S1 zs1 h1
        refine wp_seq (ih _ _ _ _ _ _ _ _ h1 Ad R I it sst st0 st a w _ H (fun R' it' st0' st' a' w' f H' _ => ?_) (fun a' w' hB hF => ?_))
        · exact ih _ _ _ _ _ _ _ _ h Ad R' I it' sst st0' st' a' w' Q H' (fun R'' it'' st0'' st'' a'' w'' f' H'' hr => hq R'' it'' st0'' st'' a'' w'' (f.trans f') H'' hr) (fun a'' w'' hB hF => hbad a'' w'' (hB.wide f) hF)
        · exact hbad a' w' hB (fun s hs => runR_fails _ _ _ _ _ _ _ _ _ h s (hF s hs))
      · rename_i S1 zs1 h1
        cases h
        exact wp_seq (ih _ _ _ _ _ _ _ _ h1 Ad R I it sst st0 st a w _ H (fun R' it' st0' st' a' w' f H' hr => hq R' it' st0' st' a' w' f H' hr) (fun a' w' hB hF => hbad a' w' hB hF))
      · cases h
    · split at h
      · rename_i hq0
        have hv := H.kn.eval hq0
        simp only [VS, Option.some.injEq] at hv
        exact wp_cond_true hv.symm (ih _ _ _ _ _ _ _ _ h Ad R I it sst st0 st a w Q H hq hbad)
      · rename_i hq0
        have hv := H.kn.eval hq0
        simp only [VS, Option.some.injEq] at hv
        exact wp_cond_false hv.symm (ih _ _ _ _ _ _ _ _ h Ad R I it sst st0 st a w Q H hq hbad)
      · rename_i h0 hq0
        split at h
        · rename_i x hx
          cases h
          exact condR_ok hK hq0 hx H (fun R' it' st0' st' a' w' f H' => hq R' it' st0' st' a' w' f H' (fun h => by cases h)) hbad
        · cases h
      · cases h
    · split at h
      · rename_i id b q hpat
        split at h
        · rename_i cc l z r r' zc zs0 hpd
          cases hb : Nat.beq r r' && isRes (JH S.A q) q.l l && i0 S.A q.i && Yb3 S.H with
          | false => rw [hb] at h; cases h
          | true =>
            rw [hb] at h
            simp only [cond_true] at h
            split at h
            · rename_i S2 zs2 hrun
              cases hc : bodyOk (JH S.A q) k q.i zc.length S2 with
              | false => rw [hc] at h; cases h
              | true =>
                rw [hc] at h
                cases h
                simp only [Bool.and_eq_true] at hb
                obtain ⟨⟨⟨g1, g2⟩, g3⟩, g4⟩ := hb
                have := Ys g1; subst this
                unfold bodyOk at hc
                simp only [Bool.and_eq_true] at hc
                obtain ⟨⟨⟨c1, c2⟩, c3⟩, c4⟩ := hc
                obtain ⟨r1, r2, t1, u2, t3, u3, ta, tb, tc, td, te, tf, p1, p2, p3, p4, p5, p6, f1, f2, f3, f4, f5, f6, rfl, ⟨b1, b2, b3, b4, b5, b6⟩, n1, n2, n3, n4, n5⟩ := loopPat_out hpat
                refine loopR_ok (V := JH S.A q) (rs := rs) H hpd rfl g4 (loopW_less _ _) ?_ ?_ ?_ ?_ ?_ ?_ (isRes_out g2) (i0_out g3) b1 b2 b3 b4 b5 b6 n1 n2 n3 n4 n5 (lessW_within c1) (isIdx_out c2) (isNo_out c3) (Ys c4)
                  (fun Ad' R' I' it' st' a' w' Q' H' hq' hbad' => ih _ _ _ _ _ _ _ _ hrun Ad' R' I' it' st' st' st' a' w' Q' H' (fun R'' it'' st0'' st'' a'' w'' f H'' _ => hq' R'' it'' st0'' st'' a'' w'' f (zs_free H'' (isNo_out c3))) hbad')
                  (fun st' a' w' f H' => hq R it st0 st' a' w' f H' (fun h => by cases h)) hbad
                · unfold JH
                  exact YP (YP (YP (YP (YP (XW _ _)))))
                · unfold JH
                  exact YP (YP (YP (YP (XW _ _))))
                · unfold JH
                  exact YP (YP (YP (XW _ _)))
                · unfold JH
                  exact YP (YP (XW _ _))
                · unfold JH
                  exact YP (XW _ _)
                · unfold JH
                  exact XW _ _
            · cases h
        · cases h
      · rename_i id b hpat
        split at h
        · rename_i S1 zs1 h1
          cases h
          exact wp_block (ih _ _ _ _ _ _ _ _ h1 Ad R I it sst st0 st a w _ H (fun R' it' st0' st' a' w' f H' hr => hq R' it' st0' st' a' w' f H' hr) (fun a' w' hB hF => hbad a' w' hB hF))
        · cases h
    · cases h
end
end Go.Proofs.YtmihblfjhoblmaaGreatDoor

/- A whole function that VQ. Over any program. -/
namespace Go.Proofs.YtmihblfjhoblmaaGreatDoor
open Go Go.RowKit

structure Hd where
  rs : Nat
  x : Nat
  y : Nat
  f : Nat
  u : Nat
  b : Nat
  r : Nat
  rest : Code
def distinct : List Nat → Bool
  | [] => true
  | x :: r => r.all (fun y => !Nat.beq x y) && distinct r
/-- The head of a function that VQ: the result is nil, the defaults are set, the reader is made. -/
def headF (K : Kr) (N : Nat) : Code → Option Hd
  | .seq (.region _ ⟨[⟨some rs, .assign (.const .nilIface), _, _, _, none⟩]⟩ false) (.seq (.region _ ⟨[⟨some x, .move (.tmp 0), _, _, _, none⟩, ⟨some y, .call ⟨.value (.func f), ⟨[.tmp x2]⟩, _⟩, _, _, _, none⟩]⟩ false)
      (.seq (.region _ ⟨[⟨some u, .move (.tmp 1), _, _, _, none⟩, ⟨some b, .build tb ⟨[(0, .tmp u2)]⟩, _, _, _, none⟩, ⟨some r, .alloc ta, _, _, _, none⟩, ⟨none, .store ts (.tmp r2) (.tmp b2), _, _, _, none⟩]⟩ false) rest)) =>
    bif Nat.beq x x2 && Nat.beq u u2 && Nat.beq r r2 && Nat.beq b b2 && Nat.beq tb K.rty && Nat.beq ta K.rty && Nat.beq ts K.rty && [rs, x, y, u, b, r].all (fun t => Nat.blt t N) && distinct [0, 1, 2, rs, x, y, u, b, r] then some ⟨rs, x, y, f, u, b, r, rest⟩ else none
  | _ => none
def resIs (r : Array ResultVar) (t : Nat) : Bool := match r with
  | ⟨[.tmp u]⟩ => Nat.beq u t
  | _ => false
theorem resIs_out {r : Array ResultVar} {t : Nat} (h : resIs r t = true) : r = #[.tmp t] := by
  unfold resIs at h
  split at h
  · rw [Ys h]
  · cases h
def Yg2 (q : Hd) (cs : List Value) : RS := ⟨[(0, .at_ 0 0), (2, .val (.bool false)), (q.rs, .val .nilIface), (q.r, .rdr)], [], .no, cs.map some, shDs (Xi cs), true, cs, []⟩
/-- A function that VQ: what it starts from, what it does. -/
def readF (P : Program) (K : Kr) (f : Nat) (cs : List Value) : Option (List Value × List Ra) := match P.funcs[f]? with
  | some fn => (match fn.body with
    | some c => (match headF K fn.ntmps c with
      | some q => bif Uq P f && resIs fn.results q.rs && Nat.ble 3 fn.ntmps then (match defF P q.f with
        | some l => (match setAll l cs with
          | some cs' => (match runR K P fn.ntmps q.rs 4000 0 [] [] (Yg2 q cs') q.rest with
            | some (S, _, true) => bif isNo S.pd then some (S.dfl, S.acts) else none
            | _ => none)
          | none => none)
        | none => none) else none
      | none => none)
    | none => none)
  | none => none
structure KrTy (P : Program) (K : Kr) : Prop where
  built : ∀ a n c, P.built K.rty [(0, .slice a n c)] = some #[.slice a n c, .bool false]
  zero : ∀ w : World, (zeroValue K.rty).run P w = .ok (.agg #[.slice none 0 0, .bool false]) w
  size : Uc P K.rty 2 = true
theorem headF_out {K : Kr} {N : Nat} {c : Code} {q : Hd} (h : headF K N c = some q) : ∃ (i1 i2 i3 : Nat) (ats : Array TypeId) (t1 t2 t3 t4 t5 t6 t7 : TypeId) (p1 p2 p3 p4 p5 p6 p7 : String) (f1 f2 f3 f4 f5 f6 f7 : Array Edge),
    c = .seq (.region i1 #[⟨some q.rs, .assign (.const .nilIface), t1, p1, f1, none⟩] false) (.seq (.region i2 #[⟨some q.x, .move (.tmp 0), t2, p2, f2, none⟩, ⟨some q.y, .call ⟨.value (.func q.f), #[.tmp q.x], ats⟩, t3, p3, f3, none⟩] false)
      (.seq (.region i3 #[⟨some q.u, .move (.tmp 1), t4, p4, f4, none⟩, ⟨some q.b, .build K.rty #[(0, .tmp q.u)], t5, p5, f5, none⟩, ⟨some q.r, .alloc K.rty, t6, p6, f6, none⟩, ⟨none, .store K.rty (.tmp q.r) (.tmp q.b), t7, p7, f7, none⟩] false) q.rest)) ∧
    (∀ t ∈ [q.rs, q.x, q.y, q.u, q.b, q.r], Nat.blt t N = true) ∧ distinct [0, 1, 2, q.rs, q.x, q.y, q.u, q.b, q.r] = true := by
  unfold headF at h
  split at h
  · rename_i i1 rs t1 p1 f1 i2 x t2 p2 f2 y f x2 ats t3 p3 f3 i3 u t4 p4 f4 b tb u2 t5 p5 f5 r ta t6 p6 f6 ts r2 b2 t7 p7 f7 rest
    cases hc : Nat.beq x x2 && Nat.beq u u2 && Nat.beq r r2 && Nat.beq b b2 && Nat.beq tb K.rty && Nat.beq ta K.rty && Nat.beq ts K.rty && [rs, x, y, u, b, r].all (fun t => Nat.blt t N) && distinct [0, 1, 2, rs, x, y, u, b, r] with
    | false => rw [hc] at h; cases h
    | true =>
      rw [hc] at h
      simp only [cond_true, Option.some.injEq] at h
      subst h
      simp only [Bool.and_eq_true] at hc
      obtain ⟨⟨⟨⟨⟨⟨⟨⟨g1, g2⟩, g3⟩, g4⟩, g5⟩, g6⟩, g7⟩, g8⟩, g9⟩ := hc
      have := Ys g1; subst this
      have := Ys g2; subst this
      have := Ys g3; subst this
      have := Ys g4; subst this
      have h5 := Ys g5; subst h5
      have h6 := Ys g6; subst h6
      have h7 := Ys g7; subst h7
      exact ⟨i1, i2, i3, ats, t1, t2, t3, t4, t5, t6, t7, p1, p2, p3, p4, p5, p6, p7, f1, f2, f3, f4, f5, f6, f7, rfl, fun t ht => List.all_eq_true.1 g8 t ht, g9⟩
  · cases h
theorem distinct_out : ∀ {l : List Nat}, distinct l = true → l.Pairwise (· ≠ ·)
  | [], _ => .nil
  | x :: r, h => by
    simp only [distinct, Bool.and_eq_true, List.all_eq_true] at h
    exact .cons (fun y hy => Ya6 (h.1 y hy)) (distinct_out h.2)
/-- A slice that holds these octets, in the block sb. -/
def SrcAt (w : World) (sb : Nat) (v : Value) (s : List UInt8) : Prop := s.length ≤ srcLim ∧ ((v = .slice none 0 0 ∧ s = []) ∨ ∃ o c, v = .slice (some ⟨sb, o, none⟩) s.length c ∧ s.length ≤ c ∧ YL w sb o (bv s))
section
variable {P : Program} {K : Kr} {g : Nat} {ev : Value} {w : World}
theorem startS_ok {q : Hd} {cs : List Value} {N rb sb b lo : Nat} {e : TypeId} {s : List UInt8} {a : Act} (kn : KnW N rb a [(0, .at_ 0 0), (2, .val (.bool false)), (q.rs, .val .nilIface), (q.r, .rdr)] [(b, 0)] [] [0]) (hb : Box w b cs e) (hr : Rdr w rb sb (some s))
    (l1 : b < lo) (l2 : rb < lo) (l3 : sb < lo) (l4 : lo ≤ w.heap.size) (n1 : rb ≠ sb) (n2 : b ≠ rb) (n3 : b ≠ sb) (hg : w.cell? ⟨g, 0, none⟩ = some ev) (g1 : g ≠ rb) (g2 : g < lo) (g3 : g ≠ b) :
    RAt N g rb sb ev 0 [] [] (Yg2 q cs) [(b, 0)] [] [0] ⟨b, lo, [], [], cs, e, Xi cs⟩ (some s) (some s) (some s) a w := by
  refine ⟨kn, ⟨rfl, (fun n h v hh => by simp [Yg2] at hh)⟩, (fun h v hh => by simp [Yg2] at hh), rfl, ⟨rfl, rfl⟩, (fun q rest hq => by cases hq), by simpa using hb, Vc _, by simp [Yg2], ⟨rfl, ?_⟩, ?_, hr, rfl, fun _ => ⟨rfl, rfl⟩, ⟨rfl, by simp [Yg2, rdAs]⟩, ⟨l1, l2, l3, l4⟩, ⟨n1, n2, n3⟩, hg, g1, g2, g3⟩
  · intro d hd
    simp only [Xi, List.mem_map] at hd
    obtain ⟨u, _, rfl⟩ := hd
    rfl
  · intro j u hj
    simp only [Yg2, List.getElem?_map, Option.map_eq_some_iff] at hj
    obtain ⟨u', hu, he⟩ := hj
    cases he
    exact hu
theorem start_act {a : Act} {N : Nat} {v0 v1 v2 : Value} {c : Code} {Q : Exit → Act → World → Prop} (h : a.tmps.size = N ∧ a.defers = [] ∧ gt a 0 = v0 ∧ gt a 1 = v1 ∧ gt a 2 = v2) (k : ∀ a0 : Act, (a0.tmps.size = N ∧ a0.defers = [] ∧ gt a0 0 = v0 ∧ gt a0 1 = v1 ∧ gt a0 2 = v2) → c.wp P Q a0 w) : c.wp P Q a w := k a h
theorem readF_ok (hK : KrOk P K g ev) (hT : KrTy P K) {f : Nat} {cs dfl : List Value} {acts : List Ra} (h : readF P K f cs = some (dfl, acts)) {b sb : Nat} {e : TypeId} {v : Value} {s s' : List UInt8} {ds : List D} (hb : Box w b cs e) (hv : SrcAt w sb v s) (hsb : sb < w.heap.size) (hne : b ≠ sb)
    (hg : w.cell? ⟨g, 0, none⟩ = some ev) (hgb : g ≠ b) (hgl : g < w.heap.size) (hs : rdAs acts (Xi dfl) s = some (ds, s')) :
    Uq P f = true ∧ Calls P f #[.pointer (some ⟨b, 0, none⟩), v, .bool false] w fun en w' => en = .returned .nilIface ∧ ∃ cs' lo, w.heap.size ≤ lo ∧ Box w' b cs' e ∧ YX (Dk sb lo w') w' ds cs' ∧ shDs ds = shDs (Xi dfl) ∧ Chg (fun j => j = b ∨ w.heap.size ≤ j) w w' := by
  unfold readF at h
  split at h
  · rename_i fn hfn
    split at h
    · rename_i c hbody
      split at h
      · rename_i q hq
        cases hc : Uq P f && resIs fn.results q.rs && Nat.ble 3 fn.ntmps with
        | false => rw [hc] at h; cases h
        | true =>
          rw [hc] at h
          simp only [cond_true] at h
          simp only [Bool.and_eq_true] at hc
          obtain ⟨⟨hf, hres⟩, hn⟩ := hc
          have hres := resIs_out hres
          have hn3 : 3 ≤ fn.ntmps := Nat.le_of_ble_eq_true hn
          split at h
          · rename_i l hl
            split at h
            · rename_i cs1 hset
              split at h
              · rename_i S zs hrun
                cases hno : isNo S.pd with
                | false => rw [hno] at h; cases h
                | true =>
                rw [hno] at h
                simp only [cond_true, Option.some.injEq, Prod.mk.injEq] at h
                obtain ⟨h1, h2⟩ := h
                have hnp := isNo_out hno
                obtain ⟨i1, i2, i3, ats, t1, t2, t3, t4, t5, t6, t7, p1, p2, p3, p4, p5, p6, p7, f1, f2, f3, f4, f5, f6, f7, rfl, hlt, hdis⟩ := headF_out hq
                simp only [List.mem_cons, List.not_mem_nil, or_false, forall_eq_or_imp, forall_eq] at hlt
                obtain ⟨b1, b2, b3, b4, b5, b6⟩ := hlt
                have hd := distinct_out hdis
                simp only [List.pairwise_cons, List.mem_cons, List.not_mem_nil, or_false, forall_eq_or_imp, forall_eq] at hd
                obtain ⟨⟨_, _, d03, d04, d05, d06, d07, d08⟩, ⟨_, d13, d14, d15, d16, d17, d18⟩, ⟨d23, d24, d25, d26, d27, d28⟩, ⟨d34, d35, d36, d37, d38⟩, ⟨d45, d46, d47, d48⟩, ⟨d56, d57, d58⟩, ⟨d67, d68⟩, d78, _⟩ := hd
                refine ⟨hf, calls_of_wp hfn hbody ?_⟩
                refine start_act (N := fn.ntmps) (v0 := .pointer (some ⟨b, 0, none⟩)) (v1 := v) (v2 := .bool false) ?_ ?_
                · refine ⟨by simp; omega, rfl, ?_, ?_, ?_⟩ <;>
                  · simp only [gt, Array.getD_eq_getD_getElem?]
                    rw [Array.getElem?_append_left (by simp)]; rfl
                intro a0 z
                obtain ⟨z0, z1, z2, z3, z4⟩ := z
                have le_of : ∀ {t : Nat}, Nat.blt t fn.ntmps = true → t < fn.ntmps := fun h => Nat.le_of_ble_eq_true h
                -- the result
                refine wp_seq (wp_region_lit (Vr ?_))
                show wpList P _ _ [] (a0.put (some q.rs) .nilIface) w
                obtain ⟨a1, ha1⟩ : ∃ a1 : Act, a1 = a0.put (some q.rs) .nilIface := ⟨_, rfl⟩
                rw [← ha1]
                have z' : a1.tmps.size = fn.ntmps ∧ a1.defers = [] ∧ gt a1 0 = .pointer (some ⟨b, 0, none⟩) ∧ gt a1 1 = v ∧ gt a1 2 = .bool false ∧ gt a1 q.rs = .nilIface := by
                  subst ha1
                  exact ⟨by rw [Xc]; exact z0, by rw [YO]; exact z1, by rw [Yy _ _ _ _ d03]; exact z2, by rw [Yy _ _ _ _ d13]; exact z3, by rw [Yy _ _ _ _ d23]; exact z4, Yw _ _ _ (by rw [z0]; exact le_of b1)⟩
                clear ha1 z0 z1 z2 z3 z4
                obtain ⟨z0, z1, z2, z3, z4, z5⟩ := z'
                -- the defaults
                refine wp_seq (wp_region_lit (Vk ?_))
                rw [Xd, z2]
                obtain ⟨a2, ha2⟩ : ∃ a2 : Act, a2 = a1.put (some q.x) (.pointer (some ⟨b, 0, none⟩)) := ⟨_, rfl⟩
                rw [← ha2]
                have z' : a2.tmps.size = fn.ntmps ∧ a2.defers = [] ∧ gt a2 0 = .pointer (some ⟨b, 0, none⟩) ∧ gt a2 1 = v ∧ gt a2 2 = .bool false ∧ gt a2 q.rs = .nilIface ∧ gt a2 q.x = .pointer (some ⟨b, 0, none⟩) := by
                  subst ha2
                  exact ⟨by rw [Xc]; exact z0, by rw [YO]; exact z1, by rw [Yy _ _ _ _ d04]; exact z2, by rw [Yy _ _ _ _ d14]; exact z3, by rw [Yy _ _ _ _ d24]; exact z4, by rw [Yy _ _ _ _ d34]; exact z5, Yw _ _ _ (by rw [z0]; exact le_of b2)⟩
                clear ha2 z0 z1 z2 z3 z4 z5
                obtain ⟨z0, z1, z2, z3, z4, z5, z6⟩ := z'
                have hdef := defF_ok (w := w) hl (b := b) (pre := []) (cs := cs) (post := []) (e := e) (by simpa using hb) hset
                refine VM hdef.1 ?_
                have ea : (#[.tmp q.x] : Array Operand).map a2.eval = #[.pointer (some ⟨b, 0, none⟩)] := by simp only [List.map_toArray, List.map_cons, List.map_nil, Xd, z6]
                rw [ea]
                refine hdef.2.mono (fun en w1 he => ?_)
                obtain ⟨rfl, hb1, hc1⟩ := he
                refine ⟨_, rfl, ?_⟩
                show Code.wp P _ _ _ _
                obtain ⟨a3, ha3⟩ : ∃ a3 : Act, a3 = a2.put (some q.y) (.tuple #[]) := ⟨_, rfl⟩
                rw [← ha3]
                have z' : a3.tmps.size = fn.ntmps ∧ a3.defers = [] ∧ gt a3 0 = .pointer (some ⟨b, 0, none⟩) ∧ gt a3 1 = v ∧ gt a3 2 = .bool false ∧ gt a3 q.rs = .nilIface := by
                  subst ha3
                  exact ⟨by rw [Xc]; exact z0, by rw [YO]; exact z1, by rw [Yy _ _ _ _ d05]; exact z2, by rw [Yy _ _ _ _ d15]; exact z3, by rw [Yy _ _ _ _ d25]; exact z4, by rw [Yy _ _ _ _ d35]; exact z5⟩
                clear ha3 z0 z1 z2 z3 z4 z5 z6
                obtain ⟨z0, z1, z2, z3, z4, z5⟩ := z'
                -- the reader
                obtain ⟨aa, nn, cc, hvs⟩ : ∃ aa nn cc, v = .slice aa nn cc := by
                  rcases hv.2 with ⟨rfl, _⟩ | ⟨o, c, rfl, _⟩
                  · exact ⟨_, _, _, rfl⟩
                  · exact ⟨_, _, _, rfl⟩
                refine wp_seq (wp_region_lit (Vk ?_))
                rw [Xd, z3]
                obtain ⟨a4, ha4⟩ : ∃ a4 : Act, a4 = a3.put (some q.u) v := ⟨_, rfl⟩
                rw [← ha4]
                have z' : a4.tmps.size = fn.ntmps ∧ a4.defers = [] ∧ gt a4 0 = .pointer (some ⟨b, 0, none⟩) ∧ gt a4 2 = .bool false ∧ gt a4 q.rs = .nilIface ∧ gt a4 q.u = v := by
                  subst ha4
                  exact ⟨by rw [Xc]; exact z0, by rw [YO]; exact z1, by rw [Yy _ _ _ _ d06]; exact z2, by rw [Yy _ _ _ _ d26]; exact z4, by rw [Yy _ _ _ _ d36]; exact z5, Yw _ _ _ (by rw [z0]; exact le_of b4)⟩
                clear ha4 z0 z1 z2 z3 z4 z5
                obtain ⟨z0, z1, z2, z4, z5, z6⟩ := z'
                have hbuilt := run_build (P := P) w1 K.rty (#[(0, .tmp q.u)].map fun x => (x.1, a4.eval x.2)) #[v, .bool false] (by
                  simp only [List.map_toArray, List.map_cons, List.map_nil, Xd, z6]
                  rw [hvs]; exact hT.built aa nn cc)
                refine YR (o := ⟨some q.b, .build K.rty #[(0, .tmp q.u)], t5, p5, f5, none⟩) (v := .agg #[v, .bool false]) (w' := w1) rfl (by simp only [execOp, Sem.run_bind, hbuilt, Result.andThen_ok, Sem.run_pure]) ?_
                obtain ⟨a5, ha5⟩ : ∃ a5 : Act, a5 = a4.put (some q.b) (.agg #[v, .bool false]) := ⟨_, rfl⟩
                show wpList P _ _ _ (a4.put (some q.b) (.agg #[v, .bool false])) w1
                rw [← ha5]
                have z' : a5.tmps.size = fn.ntmps ∧ a5.defers = [] ∧ gt a5 0 = .pointer (some ⟨b, 0, none⟩) ∧ gt a5 2 = .bool false ∧ gt a5 q.rs = .nilIface ∧ gt a5 q.b = .agg #[v, .bool false] := by
                  subst ha5
                  exact ⟨by rw [Xc]; exact z0, by rw [YO]; exact z1, by rw [Yy _ _ _ _ d07]; exact z2, by rw [Yy _ _ _ _ d27]; exact z4, by rw [Yy _ _ _ _ d37]; exact z5, Yw _ _ _ (by rw [z0]; exact le_of b5)⟩
                clear ha5 z0 z1 z2 z4 z5 z6
                obtain ⟨z0, z1, z2, z4, z5, z6⟩ := z'
                refine YR (o := ⟨some q.r, .alloc K.rty, t6, p6, f6, none⟩) (v := .pointer (some ⟨w1.heap.size, 0, none⟩)) (w' := w1.alloc (.cells #[.slice none 0 0, .bool false] K.rty)) rfl (by simp [execOp, Instr.alloc, hT.zero, newVar, newRow, Value.cells]) ?_
                obtain ⟨a6, ha6⟩ : ∃ a6 : Act, a6 = a5.put (some q.r) (.pointer (some ⟨w1.heap.size, 0, none⟩)) := ⟨_, rfl⟩
                show wpList P _ _ _ (a5.put (some q.r) (.pointer (some ⟨w1.heap.size, 0, none⟩))) _
                rw [← ha6]
                have z' : a6.tmps.size = fn.ntmps ∧ a6.defers = [] ∧ gt a6 0 = .pointer (some ⟨b, 0, none⟩) ∧ gt a6 2 = .bool false ∧ gt a6 q.rs = .nilIface ∧ gt a6 q.b = .agg #[v, .bool false] ∧ gt a6 q.r = .pointer (some ⟨w1.heap.size, 0, none⟩) := by
                  subst ha6
                  exact ⟨by rw [Xc]; exact z0, by rw [YO]; exact z1, by rw [Yy _ _ _ _ d08]; exact z2, by rw [Yy _ _ _ _ d28]; exact z4, by rw [Yy _ _ _ _ d38]; exact z5, by rw [Yy _ _ _ _ d78]; exact z6, Yw _ _ _ (by rw [z0]; exact le_of b6)⟩
                clear ha6 z0 z1 z2 z4 z5 z6
                obtain ⟨z0, z1, z2, z4, z5, z6, z7⟩ := z'
                have hbx : Box (w1.alloc (.cells #[.slice none 0 0, .bool false] K.rty)) w1.heap.size [.slice none 0 0, .bool false] K.rty := VI w1 _ _
                have hal : Chg (fun _ => False) w1 (w1.alloc (.cells #[.slice none 0 0, .bool false] K.rty)) := Ua w1 _ _
                have hsz2 : (w1.alloc (.cells #[.slice none 0 0, .bool false] K.rty)).heap.size = w1.heap.size + 1 := by simp
                generalize w1.alloc (.cells #[.slice none 0 0, .bool false] K.rty) = w2 at hbx hal hsz2 ⊢
                refine Jn (b := w1.heap.size) (off := 0) (A := []) (C := []) (seg := [.slice none 0 0, .bool false]) (vs := [v, .bool false]) (by rw [Xd, z7]) (by rw [Xd, z6]) (by simp [Value.cells]) hT.size (by rw [hvs]; rfl) (by simpa using hbx) rfl rfl (fun w3 hb3 hg3 => ?_)
                have hc3 : Chg (· = w1.heap.size) w2 w3 := Chg.grown hg3
                have hsz := hc1.size
                have hbsz := hb.lt
                have cc : Chg (fun j => j = b ∨ j = w1.heap.size) w w3 := (hc1.wide (fun j hj => .inl hj)).trans ((hal.wide (fun j hj => hj.elim)).trans (hc3.wide (fun j hj => .inr hj)))
                have hb3' : Box w3 w1.heap.size [v, .bool false] K.rty := by simpa using hb3
                have hbb : Box w3 b cs1 e := ((by simpa using hb1 : Box w1 b cs1 e).chg hal id).chg hc3 (by omega)
                have hrdr : Rdr w3 w1.heap.size sb (some s) := by
                  refine ⟨v, K.rty, hb3', hv.1, ?_⟩
                  rcases hv.2 with h | ⟨o, c, e1, e2, e3⟩
                  · exact .inl h
                  · exact .inr ⟨o, c, e1, e2, e3.chg cc (by rintro (h | h); exact hne h.symm; omega)⟩
                have hgg : w3.cell? ⟨g, 0, none⟩ = some ev := by
                  have hg3' : w3.heap[g]? = w.heap[g]? := cc.block g hgl (by rintro (h | h); exact hgb h; omega)
                  simp only [World.cell?] at hg ⊢
                  rw [hg3']; exact hg
                have kn : KnW fn.ntmps w1.heap.size (a6.put none undef) [(0, .at_ 0 0), (2, .val (.bool false)), (q.rs, .val .nilIface), (q.r, .rdr)] [(b, 0)] [] [0] := by
                  refine ⟨z0, z1, fun t x e => ?_⟩
                  have e' := lkW_mem e
                  simp only [List.mem_cons, List.not_mem_nil, or_false, Prod.mk.injEq] at e'
                  show _ = some (gt a6 t)
                  rcases e' with ⟨rfl, rfl⟩ | ⟨rfl, rfl⟩ | ⟨rfl, rfl⟩ | ⟨rfl, rfl⟩
                  · rw [z2]; rfl
                  · rw [z4]; rfl
                  · rw [z5]; rfl
                  · rw [z7]; rfl
                have hst := startS_ok (g := g) (ev := ev) (lo := w1.heap.size + 1) kn hbb hrdr (by omega) (by omega) (by omega) (by have := hc3.size; omega) (by omega) (by omega) hne hgg (by omega) (by omega) hgb
                have hs3 := hc3.size
                refine runR_ok hK _ _ _ _ _ _ _ _ _ hrun _ _ _ _ _ _ _ _ _ _ hst ?_ ?_
                · intro R' it' st0' st' a' w' f H' hr
                  obtain ⟨hpd, hrs⟩ := hr rfl
                  have hp := H'.pd
                  rw [hpd] at hp
                  have hp' : st' = st0' := hp
                  subst hp'
                  have hrel := H'.rel
                  rw [h1, h2] at hrel
                  obtain ⟨hsh, hrel⟩ := hrel
                  simp only [hs] at hrel
                  obtain ⟨hst', hds⟩ := hrel
                  refine ⟨H'.kn.defers, .nilIface, ?_, rfl, it'.cs, w1.heap.size + 1, by omega, ?_, ?_, ?_, ?_⟩
                  · rw [results_tmp hres]
                    have : gt a' q.rs = .nilIface := by rw [hrs, hst']; rfl
                    simp only [gt] at this
                    rw [this]
                  · have := H'.box
                    rw [f.b, f.pre, f.post, f.e] at this
                    simpa using this
                  · have := H'.ds
                    rw [hds, f.lo] at this
                    exact this
                  · rw [← hds]; exact hsh
                  · exact (cc.wide (fun j hj => by rcases hj with h | h; exact .inl h; exact .inr (by omega))).trans (f.chg.wide (fun j hj => by simp only [] at hj; rcases hj with h | h | h; exact .inr (by omega); exact .inl h; exact .inr (by omega)))
                · intro a' w' hB hF
                  have := hF s rfl
                  unfold XU at this
                  have h3 := this (ds, s') (by rw [h1, h2]; exact hs)
                  rw [hnp] at h3
                  exact h3.elim
              · cases h
            · cases h
          · cases h
      · cases h
    · cases h
  · cases h
end
end Go.Proofs.YtmihblfjhoblmaaGreatDoor

/- The package's reader: its cells, what it has before it. Over any program. -/
namespace Go.Proofs.YtmihblfjhoblmaaGreatDoor
open Go Go.RowKit

def JY (w : World) (sb : Nat) (v : Value) (s : List UInt8) : Prop := (v = .slice none 0 0 ∧ s = []) ∨ ∃ o c, v = .slice (some ⟨sb, o, none⟩) s.length c ∧ s.length ≤ c ∧ YL w sb o (bv s)
theorem Rdr.view {w : World} {rb sb : Nat} {st : Option (List UInt8)} (h : Rdr w rb sb st) : ∃ a c s e, Box w rb [.slice a s.length c, .bool st.isNone] e ∧ s.length ≤ c ∧ s.length ≤ srcLim ∧ JY w sb (.slice a s.length c) s ∧ ((st = none ∧ s = [] ∧ a = none ∧ c = 0) ∨ st = some s) := by
  cases st with
  | none =>
    obtain ⟨e, h⟩ := h
    exact ⟨none, 0, [], e, h, Nat.le_refl _, Nat.zero_le _, .inl ⟨rfl, rfl⟩, .inl ⟨rfl, rfl, rfl, rfl⟩⟩
  | some s =>
    obtain ⟨v, e, hb, hl, hv⟩ := h
    rcases hv with ⟨rfl, rfl⟩ | ⟨o, c, rfl, hle, hc⟩
    · exact ⟨none, 0, [], e, hb, Nat.le_refl _, Nat.zero_le _, .inl ⟨rfl, rfl⟩, .inr rfl⟩
    · exact ⟨some ⟨sb, o, none⟩, c, s, e, hb, hle, hl, .inr ⟨o, c, rfl, hle, hc⟩, .inr rfl⟩
theorem JY.rdr {w : World} {rb sb : Nat} {v : Value} {s : List UInt8} {e : TypeId} (h : JY w sb v s) (hb : Box w rb [v, .bool false] e) (hl : s.length ≤ srcLim) : Rdr w rb sb (some s) := ⟨v, e, hb, hl, h⟩
theorem JY.chg {S : Nat → Prop} {w w' : World} {sb : Nat} {v : Value} {s : List UInt8} (h : JY w sb v s) (hc : Chg S w w') (hs : ¬ S sb) : JY w' sb v s := by
  rcases h with h | ⟨o, c, e, hle, hcs⟩
  · exact .inl h
  · exact .inr ⟨o, c, e, hle, hcs.chg hc hs⟩
theorem bv_take (s : List UInt8) (m : Nat) : bv (s.take m) = (bv s).take m := by simp [bv]
theorem bv_drop (s : List UInt8) (m : Nat) : bv (s.drop m) = (bv s).drop m := by simp [bv]
theorem bv_len (s : List UInt8) : (bv s).length = s.length := by simp [bv]
theorem JY.drop {w : World} {sb : Nat} {a : Option Addr} {c m : Nat} {s : List UInt8} (h : JY w sb (.slice a s.length c) s) (hm : m ≤ s.length) : JY w sb (.slice (if c = m then a else a.map (·.add m)) (s.length - m) (c - m)) (s.drop m) := by
  rcases h with ⟨e, rfl⟩ | ⟨o, c', e, hle, hcs⟩
  · simp only [Value.slice.injEq] at e
    obtain ⟨rfl, _, rfl⟩ := e
    simp only [List.length_nil, Nat.le_zero] at hm
    subst hm
    exact .inl ⟨by simp, rfl⟩
  · simp only [Value.slice.injEq, true_and] at e
    obtain ⟨rfl, rfl⟩ := e
    have hcs' : YL w sb (o + m) (bv (s.drop m)) := by
      have h1 : bv s = (bv s).take m ++ (bv s).drop m := (List.take_append_drop _ _).symm
      rw [h1] at hcs
      have := hcs.right
      rw [List.length_take, bv_len, Nat.min_eq_left hm, ← bv_drop] at this
      exact this
    by_cases hcm : c = m
    · subst hcm
      have : s.drop c = [] := List.drop_eq_nil_of_le hle
      right
      refine ⟨o, 0, ?_, by simp [this], ?_⟩
      · simp only [if_true, Nat.sub_self, List.length_drop]
      · rw [this]
        obtain ⟨arr, e, fz, h1, h2, h3⟩ := hcs
        exact ⟨arr, e, fz, h1, by simp [bv]; omega, fun i v hv => by simp [bv] at hv⟩
    · right
      refine ⟨o + m, c - m, ?_, by simp; omega, hcs'⟩
      simp [hcm, Addr.add]
theorem JY.take {w : World} {sb : Nat} {a : Option Addr} {c m : Nat} {s : List UInt8} (h : JY w sb (.slice a s.length c) s) (hm : m ≤ s.length) : JY w sb (.slice a m m) (s.take m) := by
  rcases h with ⟨e, rfl⟩ | ⟨o, c', e, hle, hcs⟩
  · simp only [Value.slice.injEq] at e
    obtain ⟨rfl, _, rfl⟩ := e
    simp only [List.length_nil, Nat.le_zero] at hm
    subst hm
    exact .inl ⟨rfl, rfl⟩
  · simp only [Value.slice.injEq, true_and] at e
    obtain ⟨rfl, rfl⟩ := e
    right
    have hl : (s.take m).length = m := by simp; omega
    refine ⟨o, m, by rw [hl], by rw [hl]; exact Nat.le_refl _, ?_⟩
    have h1 : bv s = bv (s.take m) ++ (bv s).drop m := by rw [bv_take]; exact (List.take_append_drop _ _).symm
    rw [h1] at hcs
    exact hcs.left
theorem JY.cell {w : World} {sb : Nat} {a : Option Addr} {c i : Nat} {s : List UInt8} (h : JY w sb (.slice a s.length c) s) (hi : i < s.length) : ∃ o, a = some ⟨sb, o, none⟩ ∧ w.cell? ⟨sb, o + i * 1, none⟩ = some (.int .u8 s[i].toNat) := by
  rcases h with ⟨e, rfl⟩ | ⟨o, c', e, hle, hcs⟩
  · cases hi
  · simp only [Value.slice.injEq, true_and] at e
    obtain ⟨rfl, rfl⟩ := e
    refine ⟨o, rfl, ?_⟩
    rw [Nat.mul_one]
    exact hcs.cell (by simp [bv, hi])
theorem JY.sq {w : World} {sb lo : Nat} {v : Value} {s : List UInt8} (h : JY w sb v s) (hs : sb < w.heap.size) : Rep (Dk sb lo w) w (.sq (s.map byteD)) [v] := by
  simp only [Rep, List.length_map]
  rcases h with ⟨rfl, rfl⟩ | ⟨o, c, rfl, hle, hcs⟩
  · exact ⟨none, 0, rfl, Nat.le_refl _, .inl rfl⟩
  · exact ⟨_, c, rfl, hle, .inr ⟨sb, o, bv s, rfl, ⟨.inl rfl, hs⟩, hcs, (VT s _).2 rfl⟩⟩
/-- What is told of a function of the reader's that VQ. -/
def RdC (P : Program) (f : Nat) (p : Rp) : Prop := ∀ (w : World) (rb sb lo : Nat) (st : Option (List UInt8)), Rdr w rb sb st → rb < lo → sb < lo → lo ≤ w.heap.size → rb ≠ sb →
    Calls P f #[.pointer (some ⟨rb, 0, none⟩)] w fun e w' => ∃ v nd st', e = .returned v ∧ Chg (· = rb) w w' ∧ Rdr w' rb sb st' ∧ YX (Dk sb lo w') w' nd v.cells.toList ∧ (v.cells.toList.all fun v => v.oneCell') = true ∧ ((shR p).length = 1 → v.cells = #[v]) ∧ Yf3 p st nd st'
def LenC (P : Program) (f : Nat) (c : Bool) : Prop := ∀ (w : World) (rb sb lo : Nat) (st : Option (List UInt8)), Rdr w rb sb st → rb < lo → sb < lo → lo ≤ w.heap.size → rb ≠ sb →
    Calls P f #[.pointer (some ⟨rb, 0, none⟩)] w fun e w' => ∃ l st', e = .returned (.int .i32 l) ∧ Chg (· = rb) w w' ∧ Rdr w' rb sb st' ∧ Um c st l st'
section
variable {P : Program} {ops : Array Oper} {Q : Exit → Act → World → Prop} {N : Nat} {rest : List Oper} {L : Sl} {w : World} {d : Nat} {ty : TypeId} {pos : String} {aft : Array Edge}
theorem Uv {x y : Operand} {t : TypeId} {a : Option Addr} {n c m : Nat} {kk : IntKind} (hx : ev L x = some (.slice a n c)) (hy : ev L y = some (.int kk (m : Int))) (ht : YG P t = some 1) (hd : Nat.blt d N = true) (hm : m ≤ n)
    (h : WL rest P ops Q N ((d, .slice (if c = m then a else a.map (·.add m)) (n - m) (c - m)) :: L) w) : WL (⟨some d, .slice t x (some y) none none, ty, pos, aft, none⟩ :: rest) P ops Q N L w := by
  intro b k
  refine YR (o := ⟨some d, .slice t x (some y) none none, ty, pos, aft, none⟩) (v := .slice (if c = m then a else a.map (·.add m)) (n - m) (c - m)) rfl ?_ (h _ (k.put _ hd))
  unfold YG at ht
  split at ht
  · rename_i e he
    cases hie : P.info? e with
    | none => simp [hie] at ht
    | some inf =>
      simp only [hie, Option.map_some, Option.some.injEq] at ht
      simp only [execOp, k.eval hx, Option.map_some, Option.map_none, k.eval hy]
      simp [Instr.sliceAt, Instr.slice, run_underlying he, Instr.sliceBounds, Instr.sliceBound, asIntOf, sizeOf, typeInfo, hie, hm, ht]
  · cases ht
theorem wl_slice3 {x y z : Operand} {t : TypeId} {a : Option Addr} {n c m : Nat} {kk kz : IntKind} (hx : ev L x = some (.slice a n c)) (hy : ev L y = some (.int kk (m : Int))) (hz : ev L z = some (.int kz (m : Int))) (ht : YG P t = some 1) (hd : Nat.blt d N = true) (hm : m ≤ c)
    (h : WL rest P ops Q N ((d, .slice a m m) :: L) w) : WL (⟨some d, .slice t x none (some y) (some z), ty, pos, aft, none⟩ :: rest) P ops Q N L w := by
  intro b k
  refine YR (o := ⟨some d, .slice t x none (some y) (some z), ty, pos, aft, none⟩) (v := .slice a m m) rfl ?_ (h _ (k.put _ hd))
  unfold YG at ht
  split at ht
  · rename_i e he
    cases hie : P.info? e with
    | none => simp [hie] at ht
    | some inf =>
      simp only [execOp, k.eval hx, Option.map_some, Option.map_none, k.eval hy, k.eval hz]
      cases a <;> simp [Instr.sliceAt, Instr.slice, run_underlying he, Instr.sliceBounds, Instr.sliceBound, asIntOf, sizeOf, typeInfo, hie, hm, Addr.add]
  · cases ht
end
end Go.Proofs.YtmihblfjhoblmaaGreatDoor

/- The numbers of the program's types, and what they are. -/
namespace Go.Proofs.YtmihblfjhoblmaaGreatDoor
open Go Go.RowKit
theorem ti_u8 : VA Tryz.prog 5 .u8 = true := by kernel_rfl
theorem ti_i64 : VA Tryz.prog 3 .i64 = true := by kernel_rfl
theorem ti_i32 : VA Tryz.prog 21 .i32 = true := by kernel_rfl
theorem ti_i16 : VA Tryz.prog 45 .i16 = true := by kernel_rfl
theorem ti_u16 : VA Tryz.prog 129 .u16 = true := by kernel_rfl
theorem ti_u32 : VA Tryz.prog 59 .u32 = true := by kernel_rfl
theorem tb_bytes : Vy Tryz.prog 24 5 = true := by kernel_rfl
theorem ts_str : (match Tryz.prog.underlying 9 with | some .string => true | _ => false) = true := by kernel_rfl
theorem ti_u64 : VA Tryz.prog 74 .u64 = true := by kernel_rfl
theorem ti_l64 : VA Tryz.prog 2 .i64 = true := by kernel_rfl
theorem fo_tree0 : YY Tryz.prog 28 0 = some 0 := by kernel_rfl
theorem fo_fld0 : YY Tryz.prog 51 0 = some 0 := by kernel_rfl
theorem fo_fld4 : YY Tryz.prog 51 4 = some 4 := by kernel_rfl
theorem fo_fld5 : YY Tryz.prog 51 5 = some 5 := by kernel_rfl
theorem fo_fld6 : YY Tryz.prog 51 6 = some 6 := by kernel_rfl
theorem fo_fld7 : YY Tryz.prog 51 7 = some 7 := by kernel_rfl
theorem fo_tag0 : YY Tryz.prog 61 0 = some 0 := by kernel_rfl
theorem to_int : XS Tryz.prog 3 = true := by kernel_rfl
theorem to_bool : XS Tryz.prog 4 = true := by kernel_rfl
theorem to_str : XS Tryz.prog 9 = true := by kernel_rfl
theorem to_bytes : XS Tryz.prog 24 = true := by kernel_rfl
theorem to_trees : XS Tryz.prog 25 = true := by kernel_rfl
theorem to_tags : XS Tryz.prog 26 = true := by kernel_rfl
theorem to_flds : XS Tryz.prog 32 = true := by kernel_rfl
theorem to_u32 : XS Tryz.prog 59 = true := by kernel_rfl
theorem to_i64 : XS Tryz.prog 2 = true := by kernel_rfl
theorem to_u8 : XS Tryz.prog 5 = true := by kernel_rfl
theorem ta_tree : Un Tryz.prog 28 = some 5 := by kernel_rfl
theorem tz_tree : (Tryz.prog.info? 28).map (·.size) = some 5 := by kernel_rfl
theorem ta_fld : Un Tryz.prog 51 = some 8 := by kernel_rfl
theorem tz_fld : (Tryz.prog.info? 51).map (·.size) = some 8 := by kernel_rfl
theorem ta_tag : Un Tryz.prog 61 = some 2 := by kernel_rfl
theorem tz_tag : (Tryz.prog.info? 61).map (·.size) = some 2 := by kernel_rfl
theorem ta_msg : Un Tryz.prog 34 = some 2 := by kernel_rfl
theorem tz_msg : (Tryz.prog.info? 34).map (·.size) = some 2 := by kernel_rfl
theorem es_bytes : YG Tryz.prog 24 = some 1 := by kernel_rfl
theorem el_bytes : (YG Tryz.prog 24).isSome = true := by kernel_rfl
theorem es_trees : YG Tryz.prog 25 = some 5 := by kernel_rfl
theorem el_trees : (YG Tryz.prog 25).isSome = true := by kernel_rfl
theorem es_tags : YG Tryz.prog 26 = some 2 := by kernel_rfl
theorem el_tags : (YG Tryz.prog 26).isSome = true := by kernel_rfl
theorem es_flds : YG Tryz.prog 32 = some 8 := by kernel_rfl
theorem mixed : Tryz.prog.follows .mixedOrders = true := by kernel_rfl
theorem zv_tree (w : World) : (zeroValue 28).run Tryz.prog w = .ok (.agg #[.int .i64 0, .slice none 0 0, .bool false, .slice none 0 0, .slice none 0 0]) w := by kernel_rfl
theorem zv_fld (w : World) : (zeroValue 51).run Tryz.prog w = .ok (.agg #[.int .i64 0, .int .i64 0, .int .i64 0, .int .i64 0, .int .i64 0, .int .i64 0, .int .i64 0, .slice none 0 0]) w := by kernel_rfl
theorem zv_tag (w : World) : (zeroValue 61).run Tryz.prog w = .ok (.agg #[.int .u32 0, .slice none 0 0]) w := by kernel_rfl
/-- Where the reference's fields lie, and which types are of slices. -/
def tbl : Tbl := ⟨[(28, 0, 0), (28, 1, 1), (28, 2, 2), (28, 3, 3), (28, 4, 4), (51, 0, 0), (51, 1, 1), (51, 2, 2), (51, 3, 3), (51, 4, 4), (51, 5, 5), (51, 6, 6), (51, 7, 7), (61, 0, 0), (61, 1, 1), (34, 0, 0), (34, 1, 1)], [24, 25, 26, 32]⟩
theorem tbl_ok : tbl.ok Tryz.prog = true := by kernel_rfl
theorem ws {ops : Array Oper} {Q : Exit → Act → World → Prop} {N : Nat} {rest : List Oper} {L : Sl} {w : World} {d : Nat} {ty : TypeId} {pos : String} {aft : Array Edge} {o : Op} {v : Value}
    (hs : Yl4 tbl L o = some v) (hd : Nat.blt d N = true) (h : WL rest Tryz.prog ops Q N ((d, v) :: L) w) : WL (⟨some d, o, ty, pos, aft, none⟩ :: rest) Tryz.prog ops Q N L w := wl_step tbl tbl_ok hs hd h
end Go.Proofs.YtmihblfjhoblmaaGreatDoor

/- The package's reader at the seat: the plain values. -/
namespace Go.Proofs.YtmihblfjhoblmaaGreatDoor.Rdk
open Go Go.RowKit

def tbl : Tbl := ⟨[(93, 0, 0), (93, 1, 1)], [24]⟩
theorem tbl_ok : tbl.ok Tryz.prog = true := by kernel_rfl
theorem ws {ops : Array Oper} {Q : Exit → Act → World → Prop} {N : Nat} {rest : List Oper} {L : Sl} {w : World} {d : Nat} {ty : TypeId} {pos : String} {aft : Array Edge} {o : Op} {v : Value}
    (hs : Yl4 tbl L o = some v) (hd : Nat.blt d N = true) (h : WL rest Tryz.prog ops Q N ((d, v) :: L) w) : WL (⟨some d, o, ty, pos, aft, none⟩ :: rest) Tryz.prog ops Q N L w := wl_step tbl tbl_ok hs hd h
theorem to_bytes : XS Tryz.prog 24 = true := by kernel_rfl
theorem to_bool : XS Tryz.prog 4 = true := by kernel_rfl
theorem to_u8 : XS Tryz.prog 5 = true := by kernel_rfl
theorem es_bytes : YG Tryz.prog 24 = some 1 := by kernel_rfl

theorem fail_out {X : Prop} {p : Rp} {v : Value} {st : Option (List UInt8)} {s : List UInt8} {w w1 w2 : World} {rb sb lo : Nat} {e : TypeId} (hsh : shDs [D.lit v] = shR p) (h1 : v.cells = #[v]) (ho : v.oneCell' = true) (hst : (st = none ∧ X) ∨ st = some s) (hp : rdP p s = none)
    (g1 : w.grownBy w1 (some rb)) (g2 : w1.grownBy w2 (some rb)) (hb : Box w2 rb [.slice none 0 0, .bool true] e) :
    ∃ v' nd st', Ending.returned v = .returned v' ∧ Chg (· = rb) w w2 ∧ Rdr w2 rb sb st' ∧ YX (Dk sb lo w2) w2 nd v'.cells.toList ∧ (v'.cells.toList.all fun v => v.oneCell') = true ∧ ((shR p).length = 1 → v'.cells = #[v']) ∧ Yf3 p st nd st' := by
  refine ⟨v, [.lit v], none, rfl, (Chg.grown g1).trans (Chg.grown g2), ⟨e, hb⟩, ?_, by rw [h1]; simp [ho], fun _ => h1, hsh, fun d hd => by simp at hd; subst hd; rfl, ?_⟩
  · rw [h1]; exact Vc [v]
  · rcases hst with ⟨rfl, _⟩ | rfl
    · rfl
    · simp only [hp]
theorem ok_out {p : Rp} {v : Value} {s s' : List UInt8} {w w1 : World} {rb sb lo : Nat} {e : TypeId} {sv : Value} (hsh : shDs [D.lit v] = shR p) (h1 : v.cells = #[v]) (ho : v.oneCell' = true) (hp : rdP p s = some ([.lit v], s'))
    (g1 : w.grownBy w1 (some rb)) (hb : Box w1 rb [sv, .bool false] e) (hv : JY w sb sv s') (hl : s'.length ≤ srcLim) (hne : rb ≠ sb) :
    ∃ v' nd st', Ending.returned v = .returned v' ∧ Chg (· = rb) w w1 ∧ Rdr w1 rb sb st' ∧ YX (Dk sb lo w1) w1 nd v'.cells.toList ∧ (v'.cells.toList.all fun v => v.oneCell') = true ∧ ((shR p).length = 1 → v'.cells = #[v']) ∧ Yf3 p (some s) nd st' := by
  refine ⟨v, [.lit v], some s', rfl, Chg.grown g1, (hv.chg (Chg.grown g1) (fun e => hne e.symm)).rdr hb hl, ?_, by rw [h1]; simp [ho], fun _ => h1, hsh, fun d hd => by simp at hd; subst hd; rfl, ?_⟩
  · rw [h1]; exact Vc [v]
  · simp only [hp, and_self]
theorem rd_bool : RdC Tryz.prog 62 .bool := by
  intro w rb sb lo st hr h1 h2 h3 h4
  obtain ⟨a, c, s, e, hb, hle, hlim, hsv, hst⟩ := hr.view
  refine enter Tryz.func62 rfl Tryz.ntmps62 rfl ?_
  refine Yk (Yd (YA rfl rfl (Ym (Yj ?_))))
  refine Yk (Yk (Yd ?_))
  refine ws rfl rfl ?_
  refine ws rfl rfl ?_
  refine ws rfl rfl ?_
  refine Yv rfl to_bytes rfl hb rfl ?_
  refine ws rfl rfl ?_
  refine ws rfl rfl ?_
  refine Ym (Yj ?_)
  refine VD rfl (fun hc => ?_) (fun hc => ?_)
  · refine Yk (Yd ?_)
    refine ws rfl rfl ?_
    refine ws rfl rfl ?_
    refine ws rfl rfl ?_
    refine YJ rfl rfl to_bool rfl hb rfl (fun w1 hb1 g1 _ => ?_)
    refine Ym (Yj ?_)
    refine Yk (Yd ?_)
    refine ws rfl rfl ?_
    refine ws rfl rfl ?_
    refine ws rfl rfl ?_
    refine YJ rfl rfl to_bytes rfl hb1 rfl (fun w2 hb2 g2 _ => ?_)
    refine Ym (Yj ?_)
    refine Yk (Yd ?_)
    refine ws rfl rfl ?_
    refine Ym (Yj (Yn (Ye (Yt rfl rfl ?_))))
    have hs : s = [] := by simp at hc; cases s with | nil => rfl | cons x s => simp at hc; omega
    exact fail_out rfl rfl rfl hst (by rw [hs]; rfl) g1 g2 hb2
  · have hs : 1 ≤ s.length := by simp at hc; omega
    obtain rfl : st = some s := by
      rcases hst with ⟨_, h, _⟩ | h
      · rw [h] at hs; simp at hs
      · exact h
    obtain ⟨o, rfl, hc0⟩ := hsv.cell (i := 0) (by omega)
    refine Yi (Yj (Yk (Yd ?_)))
    refine ws rfl rfl ?_
    refine ws rfl rfl ?_
    refine ws rfl rfl ?_
    refine Yv rfl to_bytes rfl hb rfl ?_
    refine YD rfl rfl es_bytes rfl hs ?_
    refine Xl rfl to_u8 rfl hc0 ?_
    refine ws rfl rfl ?_
    refine ws rfl rfl ?_
    refine Ym (Yj (Yk (Yd ?_)))
    refine ws rfl rfl ?_
    refine ws rfl rfl ?_
    refine ws rfl rfl ?_
    refine ws rfl rfl ?_
    refine Yv rfl to_bytes rfl hb rfl ?_
    refine Uv (m := 1) rfl rfl es_bytes rfl hs ?_
    refine ws rfl rfl ?_
    refine ws rfl rfl ?_
    refine YJ rfl rfl to_bytes rfl hb rfl (fun w1 hb1 g1 _ => ?_)
    refine Ym (Yj (Yk (Yd ?_)))
    refine ws rfl rfl ?_
    refine ws rfl rfl ?_
    refine Ym (Yj (Yn (Yt rfl rfl ?_)))
    refine ok_out rfl rfl rfl ?_ g1 hb1 (hsv.drop hs) (by simp; omega) h4
    cases s with
    | nil => simp at hs
    | cons x s =>
      simp [rdP]
      by_cases h : x = 0
      · subst h; rfl
      · have : x.toNat ≠ 0 := fun e => h (UInt8.toNat_inj.1 e)
        simp [h]
        exact this
end Go.Proofs.YtmihblfjhoblmaaGreatDoor.Rdk

/- Numbers out of octets, the highest first: encoding/binary's functions (text printed by tools/be.py). -/
namespace Go.Proofs.YtmihblfjhoblmaaGreatDoor.Rdk
open Go Go.RowKit

section
variable {P : Program} {a : Act} {w : World} {N : Nat} {L : Sl} {d : Option Tmp} {ty : TypeId} {pos : String} {aft : Array Edge} {g : Option (Nat × Bool)}
theorem UA (k' : IntKind) {x : Operand} {s t : TypeId} {kk : IntKind} {n r : Int} (k : Kn N a L) (hx : ev L x = some (.int kk n)) (hs : VA P s kk = true) (ht : VA P t k' = true) (hr : k'.wrap n = r) :
    (execOp a.eval ⟨d, .convert s t x, ty, pos, aft, g⟩).run P w = .ok (.value (.int k' r)) w := by
  have hs' := UN hs
  have ht' := UN ht
  simp [execOp, k.eval hx, convert, run_underlying hs', run_underlying ht', Conv.intToInt, hr]
theorem rn_shl {x : Operand} {t u : TypeId} {kk yk : IntKind} {m s r : Int} (k : Kn N a L) (hx : ev L x = some (.int kk m)) (h0 : 0 ≤ s) (h1 : s ≤ kk.bits) (hr : kk.wrap (m * 2 ^ s.toNat) = r) :
    (execOp a.eval ⟨d, .binOp .shl t x (.const (.int yk s)) u, ty, pos, aft, g⟩).run P w = .ok (.value (.int kk r)) w := by
  simp only [execOp, k.eval hx, XG]
  simp [eqGuard, binOp, shift_shl kk yk m s h0 h1, hr]
theorem rn_or {x y : Operand} {t u : TypeId} {kk : IntKind} {m n r : Int} (k : Kn N a L) (hx : ev L x = some (.int kk m)) (hy : ev L y = some (.int kk n)) (hr : bits .or kk m n = r) :
    (execOp a.eval ⟨d, .binOp .or t x y u, ty, pos, aft, g⟩).run P w = .ok (.value (.int kk r)) w := by
  simp only [execOp, k.eval hx, k.eval hy]
  simp [eqGuard, binOp, intBits_or, hr]
end
theorem or_add (k : IntKind) (j : Nat) (hj : j ≤ k.bits) (hk : ∀ n : Int, 0 ≤ n → n < 2 ^ j → k.wrap n = n) (a x s : Nat) (ha : a < 2 ^ s) (ha2 : a < 2 ^ j) (hx : x * 2 ^ s < 2 ^ j) : bits .or k (a : Int) ((x * 2 ^ s : Nat) : Int) = ((a + x * 2 ^ s : Nat) : Int) := by
  rw [(bits_nat k j hj hk a (x * 2 ^ s) ha2 hx).2, Nat.mul_comm x (2 ^ s), Nat.or_comm, ← Nat.two_pow_add_eq_or_of_lt ha, Nat.add_comm]

theorem be16 (w : World) (sb : Nat) (a : Option Addr) (c : Nat) (s : List UInt8) (hsv : JY w sb (.slice a s.length c) s) (h : 2 ≤ s.length) : Calls Tryz.prog 71 #[.agg #[], .slice a s.length c] w fun e w' => e = .returned (.int .u16 (unbe (s.take 2))) ∧ Chg (fun _ => False) w w' := by
  obtain ⟨b0, b1, r, rfl⟩ : ∃ b0 b1 r, s = b0 :: b1 :: r := by
    obtain ⟨b0, s, rfl⟩ : ∃ x y, s = x :: y := by cases s with | nil => simp at h | cons x y => exact ⟨x, y, rfl⟩
    obtain ⟨b1, s, rfl⟩ : ∃ x y, s = x :: y := by cases s with | nil => simp at h | cons x y => exact ⟨x, y, rfl⟩
    exact ⟨b0, b1, s, rfl⟩
  obtain ⟨o, rfl, hc0⟩ := hsv.cell (i := 0) (by simp)
  have hc1 : w.cell? ⟨sb, o + 1 * 1, none⟩ = some (.int .u8 b1.toNat) := by obtain ⟨o', e, hc⟩ := hsv.cell (i := 1) (by simp); cases e; exact hc
  simp only [List.getElem_cons_zero] at hc0
  have l0 := b0.toNat_lt
  have l1 := b1.toNat_lt
  have eu : unbe ((b0 :: b1 :: r).take 2) = b1.toNat + b0.toNat * 2 ^ 8 := by
    simp only [List.take_succ_cons, List.take_zero, unbe, List.foldl_cons, List.foldl_nil]; omega
  rw [eu]
  generalize hx0 : b0.toNat = x0 at *
  generalize hx1 : b1.toNat = x1 at *
  have hlen : 2 ≤ (b0 :: b1 :: r).length := h
  generalize hn : (b0 :: b1 :: r).length = m at *
  refine enter Tryz.func71 rfl Tryz.ntmps71 rfl ?_
  refine Yk (Yd (wl_box rfl rfl (YA rfl rfl (Ym (Yj ?_)))))
  have hal : Chg (fun _ => False) w (w.alloc (.cells (Value.agg #[]).cells 127)) := Ua w _ _
  have cell : ∀ (i : Nat) (v : Value), w.cell? ⟨sb, o + i * 1, none⟩ = some v → (w.alloc (.cells (Value.agg #[]).cells 127)).cell? ⟨sb, o + i * 1, none⟩ = some v := by
    intro i v hv
    have : sb < w.heap.size := by
      simp only [World.cell?] at hv
      cases hx : w.heap[sb]? with
      | none => rw [hx] at hv; simp at hv
      | some _ => exact (Array.getElem?_eq_some_iff.1 hx).1
    simp only [World.cell?] at hv ⊢
    rw [hal.block sb this id]; exact hv
  replace hc0 := cell 0 _ hc0
  replace hc1 := cell 1 _ hc1
  clear cell
  generalize w.alloc (.cells (Value.agg #[]).cells 127) = w1 at *
  refine Yk (Yd (Xw rfl rfl (YD (i := 1) rfl rfl es_bytes rfl (by omega) (Xl rfl to_u8 rfl hc1 (Ym (Yj ?_))))))
  refine Yk (wc_sub (L' := [(1, .slice (some ⟨sb, o, none⟩) m c)]) ⟨rfl, trivial⟩ (Vb [(0, .slice (some ⟨sb, o, none⟩) m c), (1, .pointer (some ⟨sb, o + 1 * 1, none⟩)), (2, .int .u8 (x1 : Nat)), (3, .int .u16 (x1 : Nat)), (4, .slice (some ⟨sb, o, none⟩) m c), (5, .pointer (some ⟨sb, o + 0 * 1, none⟩)), (6, .int .u8 (x0 : Nat)), (7, .int .u16 (x0 : Nat)), (8, .int .u16 ((x0 * 2 ^ 8 : Nat) : Int)), (9, .int .u16 ((x1 + x0 * 2 ^ 8 : Nat) : Int)), (10, .int .u16 ((x1 + x0 * 2 ^ 8 : Nat) : Int))] [] (fun _ w' => Chg (fun _ => False) w w' ∧ w'.cell? ⟨sb, o + 0 * 1, none⟩ = some (.int .u8 (x0 : Nat)) ∧ w'.cell? ⟨sb, o + 1 * 1, none⟩ = some (.int .u8 (x1 : Nat)))
    mixed rfl rfl rfl rfl rfl (by show ([0,1,2,3,4,5,6,7,8,9,10] : List Nat).Nodup; decide) rfl rfl (by decide) rfl rfl rfl rfl ⟨hal.trans (Jw w1 _), hc0, hc1⟩ ?_ trivial ?_))
  · intro p hp vals w' hC a k
    simp only [List.mem_cons, List.not_mem_nil, or_false] at hp
    rcases hp with rfl | rfl | rfl | rfl | rfl | rfl | rfl | rfl | rfl | rfl | rfl
    · exact gv rfl rfl (YC k rfl)
    · exact gv rfl rfl (Xj k rfl rfl es_bytes (by omega))
    · exact gv rfl rfl (Xe k rfl to_u8 hC.2.2)
    · exact gv rfl rfl (UA .u16 k rfl (by kernel_rfl) (by kernel_rfl) (by rw [IntKind.wrap_u16]; omega))
    · exact gv rfl rfl (YC k rfl)
    · exact gv rfl rfl (Xj k rfl rfl es_bytes (by omega))
    · exact gv rfl rfl (Xe k rfl to_u8 hC.2.1)
    · exact gv rfl rfl (UA .u16 k rfl (by kernel_rfl) (by kernel_rfl) (by rw [IntKind.wrap_u16]; omega))
    · exact gv rfl rfl (rn_shl k rfl (by decide) (by decide) (by rw [IntKind.wrap_u16]; simp; omega))
    · exact gv rfl rfl (rn_or k rfl rfl (or_add .u16 16 (by decide) (fun n h0 h1 => by rw [IntKind.wrap_u16]; omega) _ _ _ (by omega) (by omega) (by omega)))
    · exact gv rfl rfl (Yi2 k rfl)
  · rintro vals w' hvl ⟨hw', _⟩
    exact Yj (Yn (Yt rfl rfl ⟨rfl, hw'⟩))
theorem be32 (w : World) (sb : Nat) (a : Option Addr) (c : Nat) (s : List UInt8) (hsv : JY w sb (.slice a s.length c) s) (h : 4 ≤ s.length) : Calls Tryz.prog 70 #[.agg #[], .slice a s.length c] w fun e w' => e = .returned (.int .u32 (unbe (s.take 4))) ∧ Chg (fun _ => False) w w' := by
  obtain ⟨b0, b1, b2, b3, r, rfl⟩ : ∃ b0 b1 b2 b3 r, s = b0 :: b1 :: b2 :: b3 :: r := by
    obtain ⟨b0, s, rfl⟩ : ∃ x y, s = x :: y := by cases s with | nil => simp at h | cons x y => exact ⟨x, y, rfl⟩
    obtain ⟨b1, s, rfl⟩ : ∃ x y, s = x :: y := by cases s with | nil => simp at h | cons x y => exact ⟨x, y, rfl⟩
    obtain ⟨b2, s, rfl⟩ : ∃ x y, s = x :: y := by cases s with | nil => simp at h | cons x y => exact ⟨x, y, rfl⟩
    obtain ⟨b3, s, rfl⟩ : ∃ x y, s = x :: y := by cases s with | nil => simp at h | cons x y => exact ⟨x, y, rfl⟩
    exact ⟨b0, b1, b2, b3, s, rfl⟩
  obtain ⟨o, rfl, hc0⟩ := hsv.cell (i := 0) (by simp)
  have hc1 : w.cell? ⟨sb, o + 1 * 1, none⟩ = some (.int .u8 b1.toNat) := by obtain ⟨o', e, hc⟩ := hsv.cell (i := 1) (by simp); cases e; exact hc
  have hc2 : w.cell? ⟨sb, o + 2 * 1, none⟩ = some (.int .u8 b2.toNat) := by obtain ⟨o', e, hc⟩ := hsv.cell (i := 2) (by simp); cases e; exact hc
  have hc3 : w.cell? ⟨sb, o + 3 * 1, none⟩ = some (.int .u8 b3.toNat) := by obtain ⟨o', e, hc⟩ := hsv.cell (i := 3) (by simp); cases e; exact hc
  simp only [List.getElem_cons_zero] at hc0
  have l0 := b0.toNat_lt
  have l1 := b1.toNat_lt
  have l2 := b2.toNat_lt
  have l3 := b3.toNat_lt
  have eu : unbe ((b0 :: b1 :: b2 :: b3 :: r).take 4) = b3.toNat + b2.toNat * 2 ^ 8 + b1.toNat * 2 ^ 16 + b0.toNat * 2 ^ 24 := by
    simp only [List.take_succ_cons, List.take_zero, unbe, List.foldl_cons, List.foldl_nil]; omega
  rw [eu]
  generalize hx0 : b0.toNat = x0 at *
  generalize hx1 : b1.toNat = x1 at *
  generalize hx2 : b2.toNat = x2 at *
  generalize hx3 : b3.toNat = x3 at *
  have hlen : 4 ≤ (b0 :: b1 :: b2 :: b3 :: r).length := h
  generalize hn : (b0 :: b1 :: b2 :: b3 :: r).length = m at *
  refine enter Tryz.func70 rfl Tryz.ntmps70 rfl ?_
  refine Yk (Yd (wl_box rfl rfl (YA rfl rfl (Ym (Yj ?_)))))
  have hal : Chg (fun _ => False) w (w.alloc (.cells (Value.agg #[]).cells 127)) := Ua w _ _
  have cell : ∀ (i : Nat) (v : Value), w.cell? ⟨sb, o + i * 1, none⟩ = some v → (w.alloc (.cells (Value.agg #[]).cells 127)).cell? ⟨sb, o + i * 1, none⟩ = some v := by
    intro i v hv
    have : sb < w.heap.size := by
      simp only [World.cell?] at hv
      cases hx : w.heap[sb]? with
      | none => rw [hx] at hv; simp at hv
      | some _ => exact (Array.getElem?_eq_some_iff.1 hx).1
    simp only [World.cell?] at hv ⊢
    rw [hal.block sb this id]; exact hv
  replace hc0 := cell 0 _ hc0
  replace hc1 := cell 1 _ hc1
  replace hc2 := cell 2 _ hc2
  replace hc3 := cell 3 _ hc3
  clear cell
  generalize w.alloc (.cells (Value.agg #[]).cells 127) = w1 at *
  refine Yk (Yd (Xw rfl rfl (YD (i := 3) rfl rfl es_bytes rfl (by omega) (Xl rfl to_u8 rfl hc3 (Ym (Yj ?_))))))
  refine Yk (wc_sub (L' := [(1, .slice (some ⟨sb, o, none⟩) m c)]) ⟨rfl, trivial⟩ (Vb [(0, .slice (some ⟨sb, o, none⟩) m c), (1, .pointer (some ⟨sb, o + 3 * 1, none⟩)), (2, .int .u8 (x3 : Nat)), (3, .int .u32 (x3 : Nat)), (4, .slice (some ⟨sb, o, none⟩) m c), (5, .pointer (some ⟨sb, o + 2 * 1, none⟩)), (6, .int .u8 (x2 : Nat)), (7, .int .u32 (x2 : Nat)), (8, .int .u32 ((x2 * 2 ^ 8 : Nat) : Int)), (9, .int .u32 ((x3 + x2 * 2 ^ 8 : Nat) : Int)), (10, .slice (some ⟨sb, o, none⟩) m c), (11, .pointer (some ⟨sb, o + 1 * 1, none⟩)), (12, .int .u8 (x1 : Nat)), (13, .int .u32 (x1 : Nat)), (14, .int .u32 ((x1 * 2 ^ 16 : Nat) : Int)), (15, .int .u32 ((x3 + x2 * 2 ^ 8 + x1 * 2 ^ 16 : Nat) : Int)), (16, .slice (some ⟨sb, o, none⟩) m c), (17, .pointer (some ⟨sb, o + 0 * 1, none⟩)), (18, .int .u8 (x0 : Nat)), (19, .int .u32 (x0 : Nat)), (20, .int .u32 ((x0 * 2 ^ 24 : Nat) : Int)), (21, .int .u32 ((x3 + x2 * 2 ^ 8 + x1 * 2 ^ 16 + x0 * 2 ^ 24 : Nat) : Int)), (22, .int .u32 ((x3 + x2 * 2 ^ 8 + x1 * 2 ^ 16 + x0 * 2 ^ 24 : Nat) : Int))] [] (fun _ w' => Chg (fun _ => False) w w' ∧ w'.cell? ⟨sb, o + 0 * 1, none⟩ = some (.int .u8 (x0 : Nat)) ∧ w'.cell? ⟨sb, o + 1 * 1, none⟩ = some (.int .u8 (x1 : Nat)) ∧ w'.cell? ⟨sb, o + 2 * 1, none⟩ = some (.int .u8 (x2 : Nat)) ∧ w'.cell? ⟨sb, o + 3 * 1, none⟩ = some (.int .u8 (x3 : Nat)))
    mixed rfl rfl rfl rfl rfl (by show ([0,1,2,3,4,5,6,7,8,9,10,11,12,13,14,15,16,17,18,19,20,21,22] : List Nat).Nodup; decide) rfl rfl (by decide) rfl rfl rfl rfl ⟨hal.trans (Jw w1 _), hc0, hc1, hc2, hc3⟩ ?_ trivial ?_))
  · intro p hp vals w' hC a k
    simp only [List.mem_cons, List.not_mem_nil, or_false] at hp
    rcases hp with rfl | rfl | rfl | rfl | rfl | rfl | rfl | rfl | rfl | rfl | rfl | rfl | rfl | rfl | rfl | rfl | rfl | rfl | rfl | rfl | rfl | rfl | rfl
    · exact gv rfl rfl (YC k rfl)
    · exact gv rfl rfl (Xj k rfl rfl es_bytes (by omega))
    · exact gv rfl rfl (Xe k rfl to_u8 hC.2.2.2.2)
    · exact gv rfl rfl (UA .u32 k rfl (by kernel_rfl) (by kernel_rfl) (by rw [IntKind.wrap_u32]; omega))
    · exact gv rfl rfl (YC k rfl)
    · exact gv rfl rfl (Xj k rfl rfl es_bytes (by omega))
    · exact gv rfl rfl (Xe k rfl to_u8 hC.2.2.2.1)
    · exact gv rfl rfl (UA .u32 k rfl (by kernel_rfl) (by kernel_rfl) (by rw [IntKind.wrap_u32]; omega))
    · exact gv rfl rfl (rn_shl k rfl (by decide) (by decide) (by rw [IntKind.wrap_u32]; simp; omega))
    · exact gv rfl rfl (rn_or k rfl rfl (or_add .u32 32 (by decide) (fun n h0 h1 => by rw [IntKind.wrap_u32]; omega) _ _ _ (by omega) (by omega) (by omega)))
    · exact gv rfl rfl (YC k rfl)
    · exact gv rfl rfl (Xj k rfl rfl es_bytes (by omega))
    · exact gv rfl rfl (Xe k rfl to_u8 hC.2.2.1)
    · exact gv rfl rfl (UA .u32 k rfl (by kernel_rfl) (by kernel_rfl) (by rw [IntKind.wrap_u32]; omega))
    · exact gv rfl rfl (rn_shl k rfl (by decide) (by decide) (by rw [IntKind.wrap_u32]; simp; omega))
    · exact gv rfl rfl (rn_or k rfl rfl (or_add .u32 32 (by decide) (fun n h0 h1 => by rw [IntKind.wrap_u32]; omega) _ _ _ (by omega) (by omega) (by omega)))
    · exact gv rfl rfl (YC k rfl)
    · exact gv rfl rfl (Xj k rfl rfl es_bytes (by omega))
    · exact gv rfl rfl (Xe k rfl to_u8 hC.2.1)
    · exact gv rfl rfl (UA .u32 k rfl (by kernel_rfl) (by kernel_rfl) (by rw [IntKind.wrap_u32]; omega))
    · exact gv rfl rfl (rn_shl k rfl (by decide) (by decide) (by rw [IntKind.wrap_u32]; simp; omega))
    · exact gv rfl rfl (rn_or k rfl rfl (or_add .u32 32 (by decide) (fun n h0 h1 => by rw [IntKind.wrap_u32]; omega) _ _ _ (by omega) (by omega) (by omega)))
    · exact gv rfl rfl (Yi2 k rfl)
  · rintro vals w' hvl ⟨hw', _⟩
    exact Yj (Yn (Yt rfl rfl ⟨rfl, hw'⟩))
end Go.Proofs.YtmihblfjhoblmaaGreatDoor.Rdk

/- The package's reader at the seat: numbers (text printed by tools/rdk.py). -/
namespace Go.Proofs.YtmihblfjhoblmaaGreatDoor.Rdk
open Go Go.RowKit

set_option maxRecDepth 100000
theorem does_conv {P : Program} {N : Nat} {L : Sl} {a : Act} {w : World} {d : Option Nat} {ty : TypeId} {pos : String} {aft : Array Edge} {g : Option (Nat × Bool)} (k' : IntKind) {x : Operand} {s t : TypeId} {kk : IntKind} {n : Int} {R : Value → World → Prop} (k : Kn N a L) (hx : ev L x = some (.int kk n)) (hs : VA P s kk = true) (ht : VA P t k' = true) (h : R (.int k' (k'.wrap n)) w) : Does P ⟨d, .convert s t x, ty, pos, aft, g⟩ a w R :=
  Yc3 (UA k' k hx hs ht rfl) h
theorem intP_none {k : IntKind} {n : Nat} {s : List UInt8} (h : s.length < n) : Yd4 k n s = none := by simp only [Yd4, Yh5]; rw [if_neg (by omega)]; rfl
theorem intP_some {k : IntKind} {n : Nat} {s : List UInt8} (h : n ≤ s.length) : Yd4 k n s = some (k.wrap (unbe (s.take n)), s.drop n) := by simp only [Yd4, Yh5]; rw [if_pos h]; rfl
theorem ta_be : Un Tryz.prog 127 = some 0 := by kernel_rfl
theorem fo_rd0 : YY Tryz.prog 93 0 = some 0 := by kernel_rfl
theorem ok_outC {p : Rp} {v : Value} {s s' : List UInt8} {w0 w w1 : World} {rb sb lo : Nat} {e : TypeId} {sv : Value} (h0 : Chg (fun _ => False) w0 w) (hsh : shDs [D.lit v] = shR p) (h1 : v.cells = #[v]) (ho : v.oneCell' = true) (hp : rdP p s = some ([.lit v], s'))
    (g1 : w.grownBy w1 (some rb)) (hb : Box w1 rb [sv, .bool false] e) (hv : JY w0 sb sv s') (hl : s'.length ≤ srcLim) (hne : rb ≠ sb) :
    ∃ v' nd st', Ending.returned v = .returned v' ∧ Chg (· = rb) w0 w1 ∧ Rdr w1 rb sb st' ∧ YX (Dk sb lo w1) w1 nd v'.cells.toList ∧ (v'.cells.toList.all fun v => v.oneCell') = true ∧ ((shR p).length = 1 → v'.cells = #[v']) ∧ Yf3 p (some s) nd st' := by
  obtain ⟨v', nd, st', a1, a2, a3⟩ := ok_out (lo := lo) hsh h1 ho hp g1 hb (hv.chg h0 id) hl hne
  exact ⟨v', nd, st', a1, (h0.wide (fun _ h => h.elim)).trans a2, a3⟩

theorem rd_Int16 : RdC Tryz.prog 54 .i16 := by
  intro w rb sb lo st hr h1 h2 h3 h4
  obtain ⟨a, c, s, e, hb, hle, hlim, hsv, hst⟩ := hr.view
  refine enter Tryz.func54 rfl Tryz.ntmps54 rfl ?_
  refine Yk (Yd (YA rfl rfl (Ym (Yj ?_))))
  refine Yk (Yk (Yd ?_))
  refine ws rfl rfl ?_
  refine ws rfl rfl ?_
  refine ws rfl rfl ?_
  refine Yv rfl to_bytes rfl hb rfl ?_
  refine ws rfl rfl ?_
  refine ws rfl rfl ?_
  refine Ym (Yj ?_)
  refine VD rfl (fun hc => ?_) (fun hc => ?_)
  · refine Yk (Yd ?_)
    refine ws rfl rfl ?_
    refine ws rfl rfl ?_
    refine ws rfl rfl ?_
    refine YJ rfl rfl to_bool rfl hb rfl (fun w1 hb1 g1 _ => ?_)
    refine Ym (Yj ?_)
    refine Yk (Yd ?_)
    refine ws rfl rfl ?_
    refine ws rfl rfl ?_
    refine ws rfl rfl ?_
    refine YJ rfl rfl to_bytes rfl hb1 rfl (fun w2 hb2 g2 _ => ?_)
    refine Ym (Yj ?_)
    refine Yk (Yd ?_)
    refine ws rfl rfl ?_
    refine Ym (Yj (Yn (Ye (Yt rfl rfl ?_))))
    have hs : s.length < 2 := by simp at hc; omega
    exact fail_out rfl rfl rfl hst (by simp only [rdP, intP_none hs, Option.map_none]) g1 g2 hb2
  · have hs : 2 ≤ s.length := by simp at hc; omega
    obtain rfl : st = some s := by
      rcases hst with ⟨_, h, _⟩ | h
      · rw [h] at hs; simp at hs
      · exact h
    refine Yi (Yj (Yk ?_))
    refine Vb [(0, .agg (([] : List Value).toArray)), (1, .pointer (some ⟨rb, 0, none⟩)), (2, .pointer (some ⟨rb, 0, none⟩)), (3, .pointer (some ⟨rb, 0 + 0, none⟩)), (4, .slice a s.length c)] [7, 6, 5] (fun vals w' => Chg (fun _ => False) w w' ∧ match vals with | [] => True | [v] => v = .int .u16 (unbe (s.take 2)) | v :: _ => v = .int .i16 (IntKind.i16.wrap (unbe (s.take 2)))) mixed rfl rfl rfl rfl rfl (by show ([0,1,2,3,4] : List Nat).Nodup; decide) rfl rfl (by decide) rfl rfl rfl rfl ⟨Jw w _, trivial⟩ ?_ ⟨?_, ?_, ?_, trivial⟩ ?_
    · intro p hp vals w' hC a' k
      simp only [List.mem_cons, List.not_mem_nil, or_false] at hp
      rcases hp with rfl | rfl | rfl | rfl | rfl
      · exact gv rfl rfl (UU (cs := []) k rfl ta_be (fun j v h => by simp at h))
      · exact gv rfl rfl (YC k rfl)
      · exact gv rfl rfl (Yj1 k rfl)
      · exact gv rfl rfl (YI k rfl fo_rd0)
      · exact gv rfl rfl (Xe k rfl to_bytes ((hb.chg hC.1 id).cell rfl))
    · rintro vals w' hvl ⟨hw', hC⟩ a' k
      match vals, hvl with
      | [v6, v5], _ => exact ⟨_, rfl, XK k rfl ⟨hw', hC⟩⟩
    · rintro vals w' hvl ⟨hw', hC⟩ a' k
      match vals, hvl with
      | [v5], _ =>
        simp only [] at hC
        subst hC
        exact ⟨_, rfl, does_conv .i16 k rfl (by kernel_rfl) (by kernel_rfl) ⟨hw', rfl⟩⟩
    · rintro vals w' hvl hC a' k
      match vals, hvl with
      | [], _ =>
        refine ⟨_, rfl, YQ k rfl (by kernel_rfl) ((be16 w' sb a c s (hsv.chg hC.1 id) hs).mono ?_)⟩
        rintro e w'' ⟨rfl, hc''⟩
        exact ⟨_, rfl, hC.1.trans hc'', rfl⟩
    · rintro vals w' hvl ⟨hw', hC⟩
      match vals, hvl with
      | [v7, v6, v5], _ =>
        simp only [] at hC
        subst hC
        have hb' := hb.chg hw' id
        refine Yj (Yk (Yd ?_))
        refine ws rfl rfl ?_
        refine ws rfl rfl ?_
        refine ws rfl rfl ?_
        refine ws rfl rfl ?_
        refine Yv rfl to_bytes rfl hb' rfl ?_
        refine Uv (m := 2) rfl rfl es_bytes rfl hs ?_
        refine ws rfl rfl ?_
        refine ws rfl rfl ?_
        refine YJ rfl rfl to_bytes rfl hb' rfl (fun w1 hb1 g1 _ => ?_)
        refine Ym (Yj (Yk (Yd ?_)))
        refine ws rfl rfl ?_
        refine ws rfl rfl ?_
        refine Ym (Yj (Yn (Yt rfl rfl ?_)))
        exact ok_outC (v := .int .i16 (IntKind.i16.wrap (unbe (s.take 2)))) hw' (by simp [shDs, shD, shR, Uf]) rfl rfl (by rw [rdP, intP_some hs]; rfl) g1 hb1 (hsv.drop hs) (by simp; omega) h4
theorem rd_Int32 : RdC Tryz.prog 53 .i32 := by
  intro w rb sb lo st hr h1 h2 h3 h4
  obtain ⟨a, c, s, e, hb, hle, hlim, hsv, hst⟩ := hr.view
  refine enter Tryz.func53 rfl Tryz.ntmps53 rfl ?_
  refine Yk (Yd (YA rfl rfl (Ym (Yj ?_))))
  refine Yk (Yk (Yd ?_))
  refine ws rfl rfl ?_
  refine ws rfl rfl ?_
  refine ws rfl rfl ?_
  refine Yv rfl to_bytes rfl hb rfl ?_
  refine ws rfl rfl ?_
  refine ws rfl rfl ?_
  refine Ym (Yj ?_)
  refine VD rfl (fun hc => ?_) (fun hc => ?_)
  · refine Yk (Yd ?_)
    refine ws rfl rfl ?_
    refine ws rfl rfl ?_
    refine ws rfl rfl ?_
    refine YJ rfl rfl to_bool rfl hb rfl (fun w1 hb1 g1 _ => ?_)
    refine Ym (Yj ?_)
    refine Yk (Yd ?_)
    refine ws rfl rfl ?_
    refine ws rfl rfl ?_
    refine ws rfl rfl ?_
    refine YJ rfl rfl to_bytes rfl hb1 rfl (fun w2 hb2 g2 _ => ?_)
    refine Ym (Yj ?_)
    refine Yk (Yd ?_)
    refine ws rfl rfl ?_
    refine Ym (Yj (Yn (Ye (Yt rfl rfl ?_))))
    have hs : s.length < 4 := by simp at hc; omega
    exact fail_out rfl rfl rfl hst (by simp only [rdP, intP_none hs, Option.map_none]) g1 g2 hb2
  · have hs : 4 ≤ s.length := by simp at hc; omega
    obtain rfl : st = some s := by
      rcases hst with ⟨_, h, _⟩ | h
      · rw [h] at hs; simp at hs
      · exact h
    refine Yi (Yj (Yk ?_))
    refine Vb [(0, .agg (([] : List Value).toArray)), (1, .pointer (some ⟨rb, 0, none⟩)), (2, .pointer (some ⟨rb, 0, none⟩)), (3, .pointer (some ⟨rb, 0 + 0, none⟩)), (4, .slice a s.length c)] [7, 6, 5] (fun vals w' => Chg (fun _ => False) w w' ∧ match vals with | [] => True | [v] => v = .int .u32 (unbe (s.take 4)) | v :: _ => v = .int .i32 (IntKind.i32.wrap (unbe (s.take 4)))) mixed rfl rfl rfl rfl rfl (by show ([0,1,2,3,4] : List Nat).Nodup; decide) rfl rfl (by decide) rfl rfl rfl rfl ⟨Jw w _, trivial⟩ ?_ ⟨?_, ?_, ?_, trivial⟩ ?_
    · intro p hp vals w' hC a' k
      simp only [List.mem_cons, List.not_mem_nil, or_false] at hp
      rcases hp with rfl | rfl | rfl | rfl | rfl
      · exact gv rfl rfl (UU (cs := []) k rfl ta_be (fun j v h => by simp at h))
      · exact gv rfl rfl (YC k rfl)
      · exact gv rfl rfl (Yj1 k rfl)
      · exact gv rfl rfl (YI k rfl fo_rd0)
      · exact gv rfl rfl (Xe k rfl to_bytes ((hb.chg hC.1 id).cell rfl))
    · rintro vals w' hvl ⟨hw', hC⟩ a' k
      match vals, hvl with
      | [v6, v5], _ => exact ⟨_, rfl, XK k rfl ⟨hw', hC⟩⟩
    · rintro vals w' hvl ⟨hw', hC⟩ a' k
      match vals, hvl with
      | [v5], _ =>
        simp only [] at hC
        subst hC
        exact ⟨_, rfl, does_conv .i32 k rfl (by kernel_rfl) (by kernel_rfl) ⟨hw', rfl⟩⟩
    · rintro vals w' hvl hC a' k
      match vals, hvl with
      | [], _ =>
        refine ⟨_, rfl, YQ k rfl (by kernel_rfl) ((be32 w' sb a c s (hsv.chg hC.1 id) hs).mono ?_)⟩
        rintro e w'' ⟨rfl, hc''⟩
        exact ⟨_, rfl, hC.1.trans hc'', rfl⟩
    · rintro vals w' hvl ⟨hw', hC⟩
      match vals, hvl with
      | [v7, v6, v5], _ =>
        simp only [] at hC
        subst hC
        have hb' := hb.chg hw' id
        refine Yj (Yk (Yd ?_))
        refine ws rfl rfl ?_
        refine ws rfl rfl ?_
        refine ws rfl rfl ?_
        refine ws rfl rfl ?_
        refine Yv rfl to_bytes rfl hb' rfl ?_
        refine Uv (m := 4) rfl rfl es_bytes rfl hs ?_
        refine ws rfl rfl ?_
        refine ws rfl rfl ?_
        refine YJ rfl rfl to_bytes rfl hb' rfl (fun w1 hb1 g1 _ => ?_)
        refine Ym (Yj (Yk (Yd ?_)))
        refine ws rfl rfl ?_
        refine ws rfl rfl ?_
        refine Ym (Yj (Yn (Yt rfl rfl ?_)))
        exact ok_outC (v := .int .i32 (IntKind.i32.wrap (unbe (s.take 4)))) hw' (by simp [shDs, shD, shR, Uf]) rfl rfl (by rw [rdP, intP_some hs]; rfl) g1 hb1 (hsv.drop hs) (by simp; omega) h4
/-- What is told of eight octets read as a number. -/
def RelU (st : Option (List UInt8)) (n : Nat) (st' : Option (List UInt8)) : Prop := match st with
  | none => st' = none
  | some s => if 8 ≤ s.length then st' = some (s.drop 8) ∧ n = unbe (s.take 8) else st' = none
def RdU (P : Program) (f : Nat) : Prop := ∀ (w : World) (rb sb lo : Nat) (st : Option (List UInt8)), Rdr w rb sb st → rb < lo → sb < lo → lo ≤ w.heap.size → rb ≠ sb →
    Calls P f #[.pointer (some ⟨rb, 0, none⟩)] w fun e w' => ∃ (n : Nat) (st' : Option (List UInt8)), e = .returned (.int .u64 (n : Int)) ∧ Chg (· = rb) w w' ∧ Rdr w' rb sb st' ∧ RelU st n st'
end Go.Proofs.YtmihblfjhoblmaaGreatDoor.Rdk

/- The package's reader at the seat: spans, the ends. -/
namespace Go.Proofs.YtmihblfjhoblmaaGreatDoor.Rdk
open Go Go.RowKit

set_option maxRecDepth 100000
def Jt (l : Int) (st : Option (List UInt8)) (s1 : List UInt8) (st' : Option (List UInt8)) : Prop := match st with
  | none => st' = none
  | some s => match Up l s with
    | some x => st' = some x.2 ∧ s1 = x.1
    | none => st' = none
theorem Yj9 (w : World) (rb sb : Nat) (st : Option (List UInt8)) (l : Int) (hr : Rdr w rb sb st) (hne : rb ≠ sb) :
    Calls Tryz.prog 69 #[.pointer (some ⟨rb, 0, none⟩), .int .i64 l] w fun e w' => ∃ v s1 st', e = .returned v ∧ Chg (· = rb) w w' ∧ Rdr w' rb sb st' ∧ JY w' sb v s1 ∧ s1.length ≤ srcLim ∧ Jt l st s1 st' := by
  obtain ⟨a, c, s, e, hb, hle, hlim, hsv, hst⟩ := hr.view
  refine enter Tryz.func69 rfl Tryz.ntmps69 rfl ?_
  refine Yk (Yd (YA rfl rfl (Ym (Yj ?_))))
  refine Yk (Yk (Yd ?_))
  refine ws rfl rfl ?_
  refine ws rfl rfl ?_
  refine ws rfl rfl ?_
  refine Yv rfl to_bytes rfl hb rfl ?_
  refine ws rfl rfl ?_
  refine ws rfl rfl ?_
  refine ws rfl rfl ?_
  have fail : ∀ (w2 : World) (g : Chg (· = rb) w w2) (hb2 : Box w2 rb [.slice none 0 0, .bool true] e), Up l s = none → ∃ v s1 st', Ending.returned (.slice none 0 0) = .returned v ∧ Chg (· = rb) w w2 ∧ Rdr w2 rb sb st' ∧ JY w2 sb v s1 ∧ s1.length ≤ srcLim ∧ Jt l st s1 st' := by
    intro w2 g hb2 hp
    refine ⟨_, [], none, rfl, g, ⟨e, hb2⟩, .inl ⟨rfl, rfl⟩, Nat.zero_le _, ?_⟩
    rcases hst with ⟨rfl, _⟩ | rfl
    · rfl
    · simp only [Jt, hp]
  by_cases hlt : (s.length : Int) < l
  · rw [show decide ((s.length : Int) < l) = true from decide_eq_true hlt]
    refine ws rfl rfl ?_
    refine Yq rfl rfl rfl rfl ?_
    refine Yq rfl rfl rfl rfl ?_
    refine ws rfl rfl ?_
    refine Ym (Yj ?_)
    refine VD rfl (fun _ => ?_) (fun h => by cases h)
    refine Yk (Yd ?_)
    refine ws rfl rfl ?_
    refine ws rfl rfl ?_
    refine ws rfl rfl ?_
    refine YJ rfl rfl to_bool rfl hb rfl (fun w1 hb1 g1 _ => ?_)
    refine Ym (Yj ?_)
    refine Yk (Yd ?_)
    refine ws rfl rfl ?_
    refine ws rfl rfl ?_
    refine ws rfl rfl ?_
    refine YJ rfl rfl to_bytes rfl hb1 rfl (fun w2 hb2 g2 _ => ?_)
    refine Ym (Yj ?_)
    refine Yk (Yd ?_)
    refine ws rfl rfl ?_
    refine Ym (Yj (Yn (Ye (Yt rfl rfl ?_))))
    refine fail _ ((Chg.grown g1).trans (Chg.grown g2)) hb2 ?_
    simp only [Up, Yh5]
    split
    · rfl
    · rw [if_neg (by omega)]
  · rw [show decide ((s.length : Int) < l) = false from decide_eq_false hlt]
    refine ws rfl rfl ?_
    refine Yo rfl rfl rfl ?_
    refine ws rfl rfl ?_
    refine Yo rfl rfl rfl ?_
    refine ws rfl rfl ?_
    refine ws rfl rfl ?_
    refine Ym (Yj ?_)
    refine VD rfl (fun hc => ?_) (fun hc => ?_)
    · refine Yk (Yd ?_)
      refine ws rfl rfl ?_
      refine ws rfl rfl ?_
      refine ws rfl rfl ?_
      refine YJ rfl rfl to_bool rfl hb rfl (fun w1 hb1 g1 _ => ?_)
      refine Ym (Yj ?_)
      refine Yk (Yd ?_)
      refine ws rfl rfl ?_
      refine ws rfl rfl ?_
      refine ws rfl rfl ?_
      refine YJ rfl rfl to_bytes rfl hb1 rfl (fun w2 hb2 g2 _ => ?_)
      refine Ym (Yj ?_)
      refine Yk (Yd ?_)
      refine ws rfl rfl ?_
      refine Ym (Yj (Yn (Ye (Yt rfl rfl ?_))))
      refine fail _ ((Chg.grown g1).trans (Chg.grown g2)) hb2 ?_
      simp only [Up]
      rw [if_pos (by simpa using hc)]
    · have h0 : ¬ l < 0 := by simpa using hc
      obtain ⟨m, rfl⟩ : ∃ m : Nat, l = m := ⟨l.toNat, by omega⟩
      have hm : m ≤ s.length := by omega
      refine Yi (Yj (Yk (Yd ?_)))
      refine ws rfl rfl ?_
      refine ws rfl rfl ?_
      refine ws rfl rfl ?_
      refine Yv rfl to_bytes rfl hb rfl ?_
      refine ws rfl rfl ?_
      refine ws rfl rfl ?_
      refine wl_slice3 (m := m) rfl rfl rfl es_bytes rfl (by omega) ?_
      refine ws rfl rfl ?_
      refine Ym (Yj (Yk (Yd ?_)))
      refine ws rfl rfl ?_
      refine ws rfl rfl ?_
      refine ws rfl rfl ?_
      refine ws rfl rfl ?_
      refine Yv rfl to_bytes rfl hb rfl ?_
      refine ws rfl rfl ?_
      refine Uv (m := m) rfl rfl es_bytes rfl hm ?_
      refine ws rfl rfl ?_
      refine ws rfl rfl ?_
      refine YJ rfl rfl to_bytes rfl hb rfl (fun w1 hb1 g1 _ => ?_)
      refine Ym (Yj (Yk (Yd ?_)))
      refine ws rfl rfl ?_
      refine ws rfl rfl ?_
      refine Ym (Yj (Yn (Yt rfl rfl ?_)))
      have hg := Chg.grown g1
      have hns : ¬ (fun x => x = rb) sb := fun e => hne e.symm
      have hd := (hsv.drop hm).chg hg hns
      have ht := (hsv.take hm).chg hg hns
      rcases hst with ⟨rfl, hs0, ha0, hc0⟩ | rfl
      · refine ⟨_, s.take m, none, rfl, hg, ?_, ht, by simp; omega, rfl⟩
        subst hs0 ha0 hc0
        have : m = 0 := by simpa using hm
        subst this
        exact ⟨e, hb1⟩
      · refine ⟨_, s.take m, some (s.drop m), rfl, hg, hd.rdr hb1 (by simp; omega), ht, by simp; omega, ?_⟩
        simp only [Jt, Up, Yh5]
        rw [if_neg (by omega)]
        simp only [Int.toNat_natCast]
        rw [if_pos hm]
        exact ⟨rfl, rfl⟩
theorem fn_ok (w : World) (rb sb : Nat) (st : Option (List UInt8)) (hr : Rdr w rb sb st) :
    Calls Tryz.prog 46 #[.pointer (some ⟨rb, 0, none⟩)] w fun e w' => e = .returned (.bool st.isSome) ∧ w' = w := by
  obtain ⟨a, c, s, e, hb, hle, hlim, hsv, hst⟩ := hr.view
  refine enter Tryz.func46 rfl Tryz.ntmps46 rfl ?_
  refine Yk (Yd (YA rfl rfl (Ym (Yj ?_))))
  refine Yk (Yd ?_)
  refine ws rfl rfl ?_
  refine ws rfl rfl ?_
  refine ws rfl rfl ?_
  refine Yv rfl to_bool rfl hb rfl ?_
  refine ws rfl rfl ?_
  refine ws rfl rfl ?_
  refine Ym (Yj (Yn (Yt rfl rfl ⟨?_, rfl⟩)))
  cases st <;> rfl
theorem fn_complete (w : World) (rb sb : Nat) (st : Option (List UInt8)) (ev : Value) (hr : Rdr w rb sb st) (hg : w.cell? ⟨0, 0, none⟩ = some ev) :
    Calls Tryz.prog 47 #[.pointer (some ⟨rb, 0, none⟩)] w fun e w' => e = .returned (endV ev st) ∧ w' = w := by
  obtain ⟨a, c, s, e, hb, hle, hlim, hsv, hst⟩ := hr.view
  refine enter Tryz.func47 rfl Tryz.ntmps47 rfl ?_
  refine Yk (Yd (YA rfl rfl (Ym (Yj ?_))))
  refine Yk (Yk (Yd ?_))
  refine ws rfl rfl ?_
  refine ws rfl rfl ?_
  refine ws rfl rfl ?_
  refine Yv rfl to_bool rfl hb rfl ?_
  refine Ym (Yj ?_)
  cases st with
  | none =>
    refine VD rfl (fun _ => ?_) (fun h => by cases h)
    refine Yk (Yd ?_)
    refine Xl rfl (by kernel_rfl) rfl hg ?_
    refine ws rfl rfl ?_
    exact Ym (Yj (Yn (Ye (Yt rfl rfl ⟨rfl, rfl⟩))))
  | some s' =>
    refine VD rfl (fun h => by cases h) (fun _ => ?_)
    refine Yi (Yj (Yk (Yd ?_)))
    refine ws rfl rfl ?_
    exact Ym (Yj (Yn (Yt rfl rfl ⟨rfl, rfl⟩)))
end Go.Proofs.YtmihblfjhoblmaaGreatDoor.Rdk

/- What structs hold of a tree as far as a version goes; what is appended of them. No program in sight. -/
namespace Go.Proofs.YtmihblfjhoblmaaGreatDoor
open Go Go.RowKit

def Yi7 (ver kind nul : Int) (t : Tree) (d : D) : Prop :=
  if kind = 9 ∧ ¬ (0 ≤ nul ∧ nul ≤ ver) then d.isAgg = false ∧ shD d = [.sl] ∧ ∃ n, sliceOf d = some (n, t.s.map byteD) else d = Xv kind nul t
/-- A list's cell. -/
def HoldS (ver nul : Int) (t : Tree) (Q : List D → Prop) (d : D) : Prop :=
  (0 ≤ nul ∧ t.nul = true ∧ d = .sl true []) ∨ (¬ (0 ≤ nul ∧ t.nul = true) ∧ d.isAgg = false ∧ shD d = [.sl] ∧ ∃ n els, sliceOf d = some (n, els) ∧ (0 ≤ nul → nul ≤ ver → isnOf d = some false) ∧ els.length = t.l.length ∧ Q els)
def Ya0 (tg flex : Bool) (t : Tree) (b : List D) : Prop := if tg then (if flex then b = [Ut t.u] else ∃ d, b = [d] ∧ shD d = [.mp]) else b = []
mutual
def HoldF (ver : Int) (tg flex : Bool) : Fld → Tree → List D → Prop
  | .mk kind _ _ nul _ _ of sub, t, ds =>
    if kind = 11 then ∃ d, ds = [d] ∧ HoldS ver nul t (fun els =>
      (if of = 10 then ∀ i, i < t.l.length → ∃ a b, els[i]? = some (.agg (a ++ b)) ∧ Vv ver tg flex sub 0 (att t i) a ∧ Ya0 tg flex (att t i) b
       else els = t.l.map (Xv of (-1)))) d
    else if kind = 10 then (if 0 ≤ nul then (t.nul = true ∧ ds = [.lit (.pointer none)]) ∨ (t.nul = false ∧ ∃ a b, ds = [.ptr (.agg (a ++ b))] ∧ Vv ver tg flex sub 0 t a ∧ Ya0 tg flex t b)
      else ∃ a b, ds = a ++ b ∧ Vv ver tg flex sub 0 t a ∧ Ya0 tg flex t b)
    else ∃ d, ds = [d] ∧ Yi7 ver kind nul t d
def Vv (ver : Int) (tg flex : Bool) : List Fld → Nat → Tree → List D → Prop
  | [], _, _, ds => ds = []
  | f :: fs, i, t, ds => ∃ a b, ds = a ++ b ∧ shDs a = shF tg f ∧ pos a ∧ (f.has ver = true → HoldF ver tg flex f (att t i) a) ∧ Vv ver tg flex fs (i + 1) t b
end
def UE (ver : Int) (tg flex : Bool) (fs : List Fld) (t : Tree) (ds : List D) : Prop := ∃ a b, ds = a ++ b ∧ Vv ver tg flex fs 0 t a ∧ Ya0 tg flex t b
theorem HoldF_mk (ver : Int) (tg flex : Bool) (kind fr upto nul tag df of : Int) (sub : List Fld) (t : Tree) (ds : List D) : HoldF ver tg flex (.mk kind fr upto nul tag df of sub) t ds ↔
    if kind = 11 then ∃ d, ds = [d] ∧ HoldS ver nul t (fun els => if of = 10 then ∀ i, i < t.l.length → ∃ ps, els[i]? = some (.agg ps) ∧ UE ver tg flex sub (att t i) ps else els = t.l.map (Xv of (-1))) d
    else if kind = 10 then (if 0 ≤ nul then (t.nul = true ∧ ds = [.lit (.pointer none)]) ∨ (t.nul = false ∧ ∃ ps, ds = [.ptr (.agg ps)] ∧ UE ver tg flex sub t ps) else UE ver tg flex sub t ds)
    else ∃ d, ds = [d] ∧ Yi7 ver kind nul t d := by
  simp only [HoldF, UE]
  by_cases h11 : kind = 11
  · simp only [h11, if_true]
    by_cases h10 : of = 10
    · simp only [h10, if_true]
      have e : ∀ els : List D, (∀ i, i < t.l.length → ∃ a b, els[i]? = some (.agg (a ++ b)) ∧ Vv ver tg flex sub 0 (att t i) a ∧ Ya0 tg flex (att t i) b) ↔ (∀ i, i < t.l.length → ∃ ps, els[i]? = some (.agg ps) ∧ ∃ a b, ps = a ++ b ∧ Vv ver tg flex sub 0 (att t i) a ∧ Ya0 tg flex (att t i) b) := by
        intro els
        constructor
        · intro h i hi
          obtain ⟨a, b, k1, k2, k3⟩ := h i hi
          exact ⟨a ++ b, k1, a, b, rfl, k2, k3⟩
        · intro h i hi
          obtain ⟨ps, k1, a, b, rfl, k2, k3⟩ := h i hi
          exact ⟨a, b, k1, k2, k3⟩
      simp only [e]
    · simp only [h10, if_false]
  · simp only [h11, if_false]
    by_cases h10 : kind = 10
    · simp only [h10, if_true]
      by_cases hn : 0 ≤ nul
      · simp only [hn, if_true]
        constructor
        · rintro (h | ⟨h1, a, b, h2, h3, h4⟩)
          · exact .inl h
          · exact .inr ⟨h1, a ++ b, h2, a, b, rfl, h3, h4⟩
        · rintro (h | ⟨h1, ps, h2, a, b, rfl, h3, h4⟩)
          · exact .inl h
          · exact .inr ⟨h1, a, b, h2, h3, h4⟩
      · simp only [hn, if_false]
    · simp only [h10, if_false]
theorem Ya0.sh {tg flex : Bool} {t : Tree} {b : List D} (h : Ya0 tg flex t b) : shDs b = (if tg then [.mp] else []) ∧ pos b := by
  unfold Ya0 at h
  cases tg with
  | false => simp at h; subst h; exact ⟨rfl, fun d hd => by cases hd⟩
  | true =>
    simp only [if_true] at h ⊢
    cases flex with
    | true => simp at h; subst h; exact ⟨by simp [shDs, Ut, shD], fun d hd => by simp at hd; subst hd; simp [Ut, D.width]⟩
    | false =>
      simp at h
      obtain ⟨d, rfl, hd⟩ := h
      refine ⟨by simp [shDs, hd], fun x hx => ?_⟩
      simp at hx; subst hx
      rw [← sh_width, hd]; simp
theorem Vv.sh {ver : Int} {tg flex : Bool} : ∀ {fs : List Fld} {i : Nat} {t : Tree} {ds : List D}, Vv ver tg flex fs i t ds → shDs ds = shFs tg fs ∧ pos ds
  | [], i, t, ds, h => by simp only [Vv] at h; subst h; exact ⟨rfl, fun d hd => by cases hd⟩
  | f :: fs, i, t, ds, h => by
    simp only [Vv] at h
    obtain ⟨a, b, rfl, h1, h2, _, h4⟩ := h
    obtain ⟨h5, h6⟩ := Vv.sh h4
    exact ⟨by simp only [shDs_append, shFs, h1, h5], Jd h2 h6⟩
theorem UE.sh {ver : Int} {tg flex : Bool} {fs : List Fld} {t : Tree} {ds : List D} (h : UE ver tg flex fs t ds) : shDs ds = shP tg fs ∧ pos ds := by
  obtain ⟨a, b, rfl, h1, h2⟩ := h
  exact ⟨by rw [shDs_append, h1.sh.1, h2.sh.1]; rfl, Jd h1.sh.2 h2.sh.2⟩
section
variable {E : List (List D)} {k off : Nat} {pre post : List D} {ver : Int} {flex : Bool}
theorem exV_okH (kind nul : Int) (t : Tree) (p : Tree → List UInt8) {d : D} (hd : Yi7 ver kind nul t d) (hk : E[k]? = some (pre ++ d :: post)) (hp : pos pre) (hw : D.widths pre = off) (hfit : FitV kind t) (hnul : 0 ≤ nul → t.nul = true → nul ≤ ver) (h8 : kind = 8 → 0 ≤ nul → nul ≤ ver)
    (hk10 : kind ≠ 10) : Ui E (exV kind nul ver flex k off) = some (Xr kind flex (t.nul && decide (0 ≤ nul) && decide (nul ≤ ver)) p t) := by
  unfold Yi7 at hd
  split at hd
  · rename_i h
    obtain ⟨rfl, hnv⟩ := h
    obtain ⟨hag, _, n, hsl⟩ := hd
    have hM : XQ = 32767 := rfl
    have hs := hfit (.inr rfl)
    have hwh := UC hs
    have e2 : exV 9 nul ver flex k off = [.call (if flex then .cbytes else .bytes) [.cel k off]] := by simp [exV, hnv]
    rw [e2, XM (VP hk hp hw hag)]
    have hnull : (t.nul && decide (0 ≤ nul) && decide (nul ≤ ver)) = false := by
      cases hb : t.nul with
      | false => rfl
      | true =>
        cases h1 : decide (0 ≤ nul) with
        | false => rfl
        | true => exact absurd ⟨of_decide_eq_true h1, hnul (of_decide_eq_true h1) hb⟩ hnv
    rw [hnull]
    have hb2 := VZ t.s
    have hlen : t.s.length < 2147483648 := by omega
    cases flex <;> simp [semP, Xr, YF, hwh, hsl, hb2, hlen]
  · subst hd
    exact exV_ok kind nul t p hk hp hw hfit hnul h8 hk10
end
theorem exP_ofH {ver : Int} {tg flex : Bool} {fs : List Fld} {m k off : Nat} {t : Tree} {E : List (List D)} {pre post ds : List D} (htg : flex = true → tg = true) (hh : UE ver tg flex fs t ds)
    (hfs : ∀ a pre' post', Vv ver tg flex fs 0 t a → E[k]? = some (pre' ++ a ++ post') → pos pre' → D.widths pre' = off → Ui E (exFs ver tg flex m k off fs) = some (wFs ver flex fs 0 t))
    (hk : E[k]? = some (pre ++ ds ++ post)) (hp : pos pre) (hw : D.widths pre = off) (hf : Jf ver fs 0 t) (hu : FitU fs t) : Ui E (exP ver tg flex m k off fs) = some (YM ver flex fs t) := by
  obtain ⟨a, b, rfl, ha, hb⟩ := hh
  have h1 := hfs a pre (b ++ post) ha (by rw [hk]; simp [List.append_assoc]) hp hw
  unfold exP YM
  rw [Vj, h1]
  rw [Yi9 hf hu]
  cases flex with
  | false => simp [Ui, asm]
  | true =>
    have htg' := htg rfl
    subst htg'
    simp only [Ya0, if_true] at hb
    subst hb
    have h2 := exTags_ok (E := E) (k := k) (off := off + (shFs true fs).length) (pre := pre ++ a) (post := post) (u := t.u)
      (by rw [hk]; simp [List.append_assoc]) (by rw [widths_append, hw, ← shs_width, ha.sh.1]) hu.2
    simp only [if_true, h2, asm]
theorem semE_get {E : List (List D)} {sh : List Ck} {body : List Out} {α : Type} (b : α → List UInt8) : ∀ (l : List α) (els : List D), els.length = l.length → (∀ i (h : i < l.length), ∃ d, els[i]? = some d ∧ shD d = sh ∧ Ui (E ++ [parts d]) body = some (b l[i])) → semE E sh body els = some (l.flatMap b)
  | [], [], _, _ => by simp [semE]
  | [], d :: els, h, _ => by simp at h
  | x :: l, [], h, _ => by simp at h
  | x :: l, d :: els, h, hall => by
    have h1 := hall 0 (by simp)
    simp only [List.getElem?_cons_zero, Option.some.injEq, List.getElem_cons_zero] at h1
    obtain ⟨_, rfl, h2, h3⟩ := h1
    have ih := semE_get b l els (by simpa using h) (fun i hi => by have := hall (i + 1) (by simpa using hi); simpa using this)
    simp only [semE, ih, h2, h3, if_true, List.flatMap_cons]
theorem att_get {t : Tree} {i : Nat} (h : i < t.l.length) : att t i = t.l[i] := by simp [att, List.getD_eq_getElem?_getD, h]
mutual
theorem exF_okH (ver : Int) (tg flex : Bool) (htg : flex = true → tg = true) : ∀ (f : Fld) (t : Tree) (E : List (List D)) (m k off : Nat) (pre post ds : List D), HoldF ver tg flex f t ds → E[k]? = some (pre ++ ds ++ post) → pos pre → D.widths pre = off → E.length = m → FitF ver f t →
    Ui E (exF ver tg flex m k off f) = some (Xk ver flex f t)
  | .mk kind fr upto nul tag df of sub, t, E, m, k, off, pre, post, ds, hh, hk, hp, hw, hm, hfit => by
    have hM : XQ = 32767 := rfl
    rw [HoldF_mk] at hh
    rw [exF_mk, VL ver flex kind fr upto nul tag df of sub t _ rfl]
    simp only [FitF] at hfit
    obtain ⟨hnul, h8, hfit⟩ := hfit
    by_cases h11 : kind = 11
    · simp only [h11, if_true] at hh hfit ⊢
      obtain ⟨hlen, hst, hpr⟩ := hfit
      obtain ⟨d, rfl, hcase⟩ := hh
      have hsem : ∀ els : List D, els.length = t.l.length → (if of = 10 then ∀ i, i < t.l.length → ∃ ps, els[i]? = some (.agg ps) ∧ UE ver tg flex sub (att t i) ps else els = t.l.map (Xv of (-1))) → semE E (shE tg of sub) (if of = 10 then exP ver tg flex (m + 1) m 0 sub else exV of (-1) ver flex m 0) els = some (t.l.flatMap (Xr of flex false (YM ver flex sub))) := by
        intro els hel hels
        by_cases h10 : of = 10
        · simp only [h10, if_true] at hels ⊢
          rw [show Xr 10 flex false (YM ver flex sub) = YM ver flex sub from funext fun x => by simp [Xr]]
          refine semE_get (YM ver flex sub) t.l els hel (fun i hi => ?_)
          obtain ⟨ps, h1, h2⟩ := hels i hi
          rw [att_get hi] at h2
          refine ⟨.agg ps, h1, by simp only [shD, h2.sh.1, shE, if_true], ?_⟩
          obtain ⟨hf, hu⟩ := hst h10 t.l[i] (List.getElem_mem hi)
          have hget : (E ++ [parts (D.agg ps)])[m]? = some ([] ++ ps ++ []) := by
            rw [← hm, List.getElem?_append_right (Nat.le_refl _), Nat.sub_self]; simp [parts]
          exact exP_ofH htg h2 (fun a pre' post' h0 h1 h2 h3 => JG ver tg flex htg sub 0 t.l[i] _ (m + 1) m 0 pre' post' a h0 h1 h2 h3 (by simp [hm]) hf) hget (fun d hd => by cases hd) rfl hf hu
        · simp only [h10, if_false] at hels ⊢
          subst hels
          obtain ⟨⟨h11', h7⟩, hv⟩ := hpr h10
          refine semE_all (Xv of (-1)) (Xr of flex false (YM ver flex sub)) t.l (fun x hx => ⟨?_, ?_⟩)
          · rw [Yf7]; simp [shE, h10]
          · have hget : (E ++ [parts (Xv of (-1) x)])[m]? = some ([] ++ parts (Xv of (-1) x)) := by
              rw [← hm, List.getElem?_append_right (Nat.le_refl _), Nat.sub_self]; simp
            have hpt : parts (Xv of (-1) x) = [Xv of (-1) x] := by
              unfold Xv
              repeat' split
              all_goals first | rfl | (exfalso; omega)
            rw [hpt] at hget ⊢
            have := exV_ok (off := 0) (ver := ver) (flex := flex) of (-1) x (YM ver flex sub) hget (fun d hd => by cases hd) rfl (hv x hx) (by omega) (by omega) h10
            simpa using this
      have hth := Ye9 hlen
      have hlt : t.l.length < 2147483648 := by omega
      have hk' : E[k]? = some (pre ++ d :: post) := by rw [hk]; simp
      have heach : ∀ (l : List D) (n : Bool), sliceOf d = some (n, l) → l.length < 2147483648 → ∀ ys, semE E (shE tg of sub) (if of = 10 then exP ver tg flex (m + 1) m 0 sub else exV of (-1) ver flex m 0) l = some ys →
          Yd6 E (.each k off (shE tg of sub) (if of = 10 then exP ver tg flex (m + 1) m 0 sub else exV of (-1) ver flex m 0)) = some ys := by
        intro l n hs hl ys hys
        subst hw
        simp only [Yd6, hk', Option.bind_some, dAt_mid pre d post hp, hs, hl, if_true, hys]
      have two : ∀ (a b : Out) (x y : List UInt8), Yd6 E a = some x → Yd6 E b = some y → Ui E [a, b] = some (x ++ y) := by
        intro a b x y h1 h2
        have := Vj E [a] [b]
        rw [Vh, Vh, h1, h2] at this
        exact this
      rcases hcase with ⟨hn, hb, rfl⟩ | ⟨hnn, hag, _, n, els, hs, hi, hel, hels⟩
      · have hv := hnul hn hb
        simp only [hn, hv, and_self, if_true, hb, decide_true, Bool.and_self, List.flatMap_nil, List.length_nil, List.append_nil]
        have h1 : Yd6 E (.call (if flex then .cnarr else .narr) [.len k off (shE tg of sub), .isn k off []]) = some (YF flex true 0 4) := by
          rw [sem_call2 (arg_len hk' hp hw rfl) (arg_isn hk' hp hw rfl)]
          cases flex <;> simp [semP, YF, uvar0]
        have := two _ _ _ _ h1 (heach [] true rfl (by simp) [] (by simp [semE]))
        rw [List.append_nil] at this
        exact this
      · have hnull : (t.nul && decide (0 ≤ nul) && decide (nul ≤ ver)) = false := by
          cases hb : t.nul with
          | false => rfl
          | true =>
            cases h1 : decide (0 ≤ nul) with
            | false => rfl
            | true => exact absurd ⟨of_decide_eq_true h1, hb⟩ hnn
        simp only [hnull, Bool.false_eq_true, if_false, hth]
        have h2 := heach els n hs (by omega) _ (hsem els hel hels)
        have hl := arg_len (sh := shE tg of sub) hk' hp hw hs
        have h1 : Yd6 E (if 0 ≤ nul ∧ nul ≤ ver then Out.call (if flex then .cnarr else .narr) [.len k off (shE tg of sub), .isn k off []] else .call (if flex then .carr else .arr) [.len k off (shE tg of sub)]) = some (YF flex false t.l.length 4) := by
          by_cases hnv : 0 ≤ nul ∧ nul ≤ ver
          · rw [if_pos hnv, sem_call2 hl (arg_isn hk' hp hw (hi hnv.1 hnv.2)), hel]
            have hlt' : (t.l.length : Int) < 2147483648 := by omega
            cases flex <;> simp [semP, YF, hlt']
          · rw [if_neg hnv]
            have := XM (p := if flex then Pf.carr else Pf.arr) hl
            rw [Vh] at this
            rw [this, hel]
            have hlt' : (t.l.length : Int) < 2147483648 := by omega
            cases flex <;> simp [semP, YF, hlt']
        exact two _ _ _ _ h1 h2
    · simp only [h11, if_false] at hh hfit ⊢
      by_cases h10 : kind = 10
      · simp only [h10, if_true] at hh hfit ⊢
        by_cases hn : 0 ≤ nul
        · simp only [hn, and_self, if_true, decide_true, Bool.and_true] at hh ⊢
          rw [Vh]
          rcases hh with ⟨hb, rfl⟩ | ⟨hb, ps, rfl, hps⟩
          · have hv := hnul hn hb
            have hk' : E[k]? = some (pre ++ .lit (.pointer none) :: post) := by rw [hk]; simp
            subst hw
            simp only [Yd6, hk', Option.bind_some, dAt_mid pre _ post hp, hv, hb, decide_true, Bool.and_self, if_true]
            rw [Vh]
            simp only [Yd6]
            rfl
          · have hk' : E[k]? = some (pre ++ .ptr (.agg ps) :: post) := by rw [hk]; simp
            subst hw
            have hget : (E ++ [parts (D.agg ps)])[m]? = some ([] ++ ps ++ []) := by
              rw [← hm, List.getElem?_append_right (Nat.le_refl _), Nat.sub_self]; simp [parts]
            have h1 := exP_ofH (ver := ver) (flex := flex) htg hps (fun a pre' post' h0 h1 h2 h3 => JG ver tg flex htg sub 0 t _ (m + 1) m 0 pre' post' a h0 h1 h2 h3 (by simp [hm]) hfit.1) hget (fun d hd => by cases hd) rfl hfit.1 hfit.2
            simp only [Yd6, hk', Option.bind_some, dAt_mid pre _ post hp, shD, hps.sh.1, if_true, hb, Bool.false_and, Bool.false_eq_true, if_false]
            have h2 := Vj (E ++ [parts (D.agg ps)]) [.lit 1] (exP ver tg flex (m + 1) m 0 sub)
            rw [h1, Vh] at h2
            simp only [Yd6, List.cons_append, List.nil_append] at h2
            rw [h2]; rfl
        · simp only [hn, if_false, and_false] at hh ⊢
          simp only [Xr]
          exact exP_ofH htg hh (fun a pre' post' h0 h1 h2 h3 => JG ver tg flex htg sub 0 t E m k off pre' post' a h0 h1 h2 h3 hm hfit.1) hk hp hw hfit.1 hfit.2
      · simp only [h10, if_false, false_and] at hh hfit ⊢
        obtain ⟨d, rfl, hd⟩ := hh
        have hk' : E[k]? = some (pre ++ d :: post) := by rw [hk]; simp
        exact exV_okH kind nul t _ hd hk' hp hw hfit hnul h8 h10
theorem JG (ver : Int) (tg flex : Bool) (htg : flex = true → tg = true) : ∀ (fs : List Fld) (i : Nat) (t : Tree) (E : List (List D)) (m k off : Nat) (pre post ds : List D), Vv ver tg flex fs i t ds → E[k]? = some (pre ++ ds ++ post) → pos pre → D.widths pre = off → E.length = m → Jf ver fs i t →
    Ui E (exFs ver tg flex m k off fs) = some (wFs ver flex fs i t)
  | [], _, _, _, _, _, _, _, _, _, _, _, _, _, _, _ => by simp [exFs, wFs, Ui]
  | f :: fs, i, t, E, m, k, off, pre, post, ds, hh, hk, hp, hw, hm, hfit => by
    simp only [Jf] at hfit
    obtain ⟨htag, hff, hrest⟩ := hfit
    simp only [Vv] at hh
    obtain ⟨a, b, rfl, hsa, hpa, hha, hhb⟩ := hh
    have ih := JG ver tg flex htg fs (i + 1) t E m k (off + (shF tg f).length) (pre ++ a) post b hhb (by rw [hk]; simp [List.append_assoc]) (Jd hp hpa) (by rw [widths_append, hw, ← shs_width, hsa]) hm hrest
    simp only [exFs, wFs]
    rw [Vj, ih]
    by_cases hx : f.has ver = true
    · have h1 := exF_okH ver tg flex htg f (att t i) E m k off pre (b ++ post) a (hha hx) (by rw [hk]; simp [List.append_assoc]) hp hw hm (hff hx)
      simp only [hx, if_true, h1, htag, true_and]
    · have hh' : f.has ver = false := by simpa using hx
      simp [hh', Ui]
end
/-- What is appended of a struct that holds a tree. -/
theorem exP_ok {ver : Int} {tg flex : Bool} (htg : flex = true → tg = true) {fs : List Fld} {m k off : Nat} {t : Tree} {E : List (List D)} {pre post ds : List D} (hh : UE ver tg flex fs t ds) (hk : E[k]? = some (pre ++ ds ++ post)) (hp : pos pre) (hw : D.widths pre = off) (hm : E.length = m) (hf : FitT ver fs t) : Ui E (exP ver tg flex m k off fs) = some (YM ver flex fs t) :=
  exP_ofH htg hh (fun a pre' post' h0 h1 h2 h3 => JG ver tg flex htg fs 0 t E m k off pre' post' a h0 h1 h2 h3 hm hf.1) hk hp hw hf.1 hf.2
end Go.Proofs.YtmihblfjhoblmaaGreatDoor

/- What is read of what is written: one value, tags. No program in sight. -/
namespace Go.Proofs.YtmihblfjhoblmaaGreatDoor
open Go Go.RowKit

def rpV (kind nul ver : Int) (flex : Bool) : Rp :=
  if kind = 0 then .bool else if kind = 1 then .i8 else if kind = 2 then .i16 else if kind = 3 then .i32 else if kind = 5 then .u16 else if kind = 7 then .uuid
  else if kind = 8 then (if 0 ≤ nul ∧ nul ≤ ver then (if flex then .cnstr else .nstr) else (if flex then .cstr else .str))
  else if kind = 9 then (if 0 ≤ nul ∧ nul ≤ ver then (if flex then .cnbytes else .nbytes) else (if flex then .cbytes else .bytes))
  else .i64
/-- What cells say in these words they say in those. -/
def Imp (a b : List D) : Prop := ∀ (ok : Nat → Prop) (w : World) (cs : List Value), YX ok w a cs → YX ok w b cs
theorem Imp.refl (a : List D) : Imp a a := fun _ _ _ h => h
theorem Imp.app {a b c d : List D} (h : Imp a b) (k : Imp c d) : Imp (a ++ c) (b ++ d) := by
  intro ok w cs hr
  obtain ⟨c1, c2, rfl, h1, h2⟩ := (YX.app _ _ _).1 hr
  exact (YX.app _ _ _).2 ⟨c1, c2, rfl, h ok w c1 h1, k ok w c2 h2⟩
theorem Imp.one {a b : D} (h : ∀ (ok : Nat → Prop) (w : World) (cs : List Value), Rep ok w a cs → Rep ok w b cs) : Imp [a] [b] := by
  intro ok w cs hr
  simp only [YX] at hr ⊢
  obtain ⟨c1, c2, e, h1, h2⟩ := hr
  exact ⟨c1, c2, e, h ok w c1 h1, h2⟩
theorem rep_one {ok : Nat → Prop} {w : World} {d : D} {cs : List Value} : YX ok w [d] cs ↔ Rep ok w d cs := by
  simp only [YX]
  constructor
  · rintro ⟨c1, c2, rfl, h, rfl⟩; simpa using h
  · intro h; exact ⟨cs, [], by simp, h, rfl⟩
theorem imp_agg (ds : List D) : Imp ds [.agg ds] := by
  intro ok w cs hr
  rw [rep_one]; simpa only [Rep] using hr
theorem JT (n : Int) : IntKind.i16.wrap n = (n + 32768) % 65536 - 32768 := by
  simp [IntKind.wrap, IntKind.bits, IntKind.signed]
  split <;> omega
theorem unbe_go : ∀ (k : Nat) (z : Int) (m : Nat), ((be k z).foldl (fun n c => n * 256 + c.toNat) m : Nat) = (m : Int) * (256 ^ k : Nat) + z % (256 ^ k : Nat)
  | 0, z, m => by simp [be]
  | k + 1, z, m => by
    simp only [be, List.foldl_cons]
    rw [unbe_go k z]
    have h1 := Yg8 (z / (2 ^ (8 * k) : Nat))
    have h2 : (2 ^ (8 * k) : Nat) = 256 ^ k := by rw [Nat.pow_mul]
    rw [h2] at h1 ⊢
    have h3 : ((m * 256 + (Vp (z / (256 ^ k : Nat))).toNat : Nat) : Int) = m * 256 + (z / (256 ^ k : Nat)) % 256 := by
      rw [← h1]; simp only [Int.natCast_add, Int.natCast_mul]; rfl
    rw [h3]
    have hp : (0 : Int) < (256 ^ k : Nat) := by have : 0 < 256 ^ k := Nat.pow_pos (by omega); omega
    have h4 : ((256 ^ (k + 1) : Nat) : Int) = (256 ^ k : Nat) * 256 := by rw [Nat.pow_succ, Int.natCast_mul]; rfl
    rw [h4]
    generalize ((256 ^ k : Nat) : Int) = q at hp
    have e1 : z % (q * 256) = z % q + q * (z / q % 256) := by
      have a1 := Int.emod_def z (q * 256)
      have a2 := Int.emod_def z q
      have a3 := Int.emod_def (z / q) 256
      rw [Int.ediv_mul_of_nonneg (by omega)] at a1
      rw [a1, a2, a3, Int.mul_sub, Int.mul_assoc]
      omega
    rw [e1]
    generalize z / q % 256 = r
    rw [Int.add_mul, Int.mul_assoc, Int.mul_comm 256 q, Int.mul_comm r q]
    omega
theorem unbe_be (k : Nat) (z : Int) : (unbe (be k z) : Int) = z % (256 ^ k : Nat) := by
  have := unbe_go k z 0
  simp only [unbe]
  rw [this]; simp
theorem JL (a s : List UInt8) (n : Nat) (h : a.length = n) : Yh5 n (a ++ s) = some (a, s) := by
  subst h
  simp [Yh5]
theorem be_size : ∀ (k : Nat) (n : Int), (be k n).length = k
  | 0, _ => rfl
  | k + 1, n => by simp [be, be_size k n]
theorem Vs (k : IntKind) (n m : Nat) (hk : k.bits = m) (h : 8 * n = m) (z : Int) (s : List UInt8) : Yd4 k n (be n z ++ s) = some (k.wrap z, s) := by
  simp only [Yd4]
  rw [JL _ _ _ (be_size n z)]
  simp only [Option.map_some]
  have e : k.wrap (unbe (be n z)) = k.wrap z := by
    rw [unbe_be]
    have h1 : (256 ^ n : Nat) = 2 ^ m := by rw [← h, Nat.pow_mul]
    rw [h1]
    subst hk
    cases k <;> simp only [IntKind.wrap, IntKind.bits, IntKind.signed] <;> simp <;> (try split) <;> omega
  rw [e]
theorem Xf (k : Nat) (c : UInt8) (r : List UInt8) : uvarR (k + 1) (c :: r) = if k = 0 then (if c.toNat ≤ 15 then some (c.toNat, r) else none)
      else if c.toNat < 128 then some (c.toNat, r)
      else match uvarR k r with
        | some (n, r') => some (c.toNat - 128 + 128 * n, r')
        | none => none := by rw [uvarR.eq_def]; rfl
theorem uvarR_uvar : ∀ (k n : Nat) (s : List UInt8), n < 16 * 128 ^ k → uvarR (k + 1) (uvar n ++ s) = some (n, s)
  | 0, n, s, h => by
    have : n < 128 := by simp at h; omega
    rw [VX this]
    have e : (UInt8.ofNat n).toNat = n := by simp [UInt8.toNat_ofNat']; omega
    rw [List.cons_append, Xf]
    simp only [List.nil_append, if_true, e]
    rw [if_pos (by simp at h; omega)]
  | k + 1, n, s, h => by
    by_cases hn : n < 128
    · rw [VX hn]
      have e : (UInt8.ofNat n).toNat = n := by simp [UInt8.toNat_ofNat']; omega
      rw [List.cons_append, Xf]
      simp only [List.nil_append, e]
      rw [if_neg (by omega), if_pos hn]
    · rw [Vz (by omega)]
      have e : (UInt8.ofNat (n % 128 + 128)).toNat = n % 128 + 128 := by simp [UInt8.toNat_ofNat']; omega
      have ih := uvarR_uvar k (n / 128) s (by rw [Nat.pow_succ] at h; omega)
      rw [List.cons_append, Xf]
      simp only [e]
      rw [if_neg (by omega), if_neg (by omega), ih]
      simp only [Option.some.injEq, Prod.mk.injEq, and_true]
      omega
theorem Xy (n : Nat) (s : List UInt8) (h : n < 4294967296) : XA (uvar n ++ s) = some (n, s) := uvarR_uvar 4 n s (by omega)
theorem Vd (a s : List UInt8) (l : Int) (h : l = a.length) : Up l (a ++ s) = some (a, s) := by
  subst h
  simp only [Up]
  rw [if_neg (by omega), Int.toNat_natCast, JL _ _ _ rfl]
theorem rdP_ok (kind nul ver : Int) (flex : Bool) (t : Tree) (p : Tree → List UInt8) (s : List UInt8) (hfit : FitV kind t) (hnul : 0 ≤ nul → t.nul = true → nul ≤ ver) (h8 : kind = 8 → 0 ≤ nul → nul ≤ ver) (hk10 : kind ≠ 10) :
    ∃ nd d, rdP (rpV kind nul ver flex) (Xr kind flex (t.nul && decide (0 ≤ nul) && decide (nul ≤ ver)) p t ++ s) = some (nd, s) ∧ shDs nd = shV kind nul ∧ Yd5 nd ∧ Yi7 ver kind nul t d ∧ Imp nd [d] ∧ (kind ≠ 7 → nd = [d]) := by
  have hM : XQ = 32767 := rfl
  have lit : ∀ v : Value, Yd5 [.lit v] := fun v d hd => by simp at hd; subst hd; rfl
  have one : ∀ d : D, d.width = 1 → Yd5 [d] := fun d h x hx => by simp at hx; subst hx; exact h
  have hv : kind ≠ 9 → Yi7 ver kind nul t (Xv kind nul t) := fun h => by unfold Yi7; rw [if_neg (fun e => h e.1)]
  have sh1 : shDs [Xv kind nul t] = shV kind nul := by simp only [shDs, List.append_nil, Yf7]
  by_cases h0 : kind = 0
  · subst h0
    have e : Xv 0 nul t = .lit (.bool (decide (t.n % 2 = 1))) := by simp [Xv]
    refine ⟨[Xv 0 nul t], _, ?_, sh1, by rw [e]; exact lit _, hv (by omega), Imp.refl _, fun _ => rfl⟩
    have h2 : t.n % 2 = 0 ∨ t.n % 2 = 1 := by omega
    simp only [rpV, Xr, if_true, List.cons_append, List.nil_append, rdP, e]
    rcases h2 with h2 | h2 <;> rw [h2] <;> rfl
  by_cases h1 : kind = 1
  · subst h1
    have e : Xv 1 nul t = .lit (.int .i8 (IntKind.i8.wrap t.n)) := by simp [Xv]
    have e2 : Xr 1 flex (t.nul && decide (0 ≤ nul) && decide (nul ≤ ver)) p t = be 1 t.n := by simp [Xr, width]
    refine ⟨[Xv 1 nul t], _, ?_, sh1, by rw [e]; exact lit _, hv (by omega), Imp.refl _, fun _ => rfl⟩
    rw [e2, show rpV 1 nul ver flex = .i8 from rfl, rdP, Vs .i8 1 8 rfl rfl, e]; rfl
  by_cases h2 : kind = 2
  · subst h2
    have e : Xv 2 nul t = .lit (.int .i16 (IntKind.i16.wrap t.n)) := by simp [Xv]
    have e2 : Xr 2 flex (t.nul && decide (0 ≤ nul) && decide (nul ≤ ver)) p t = be 2 t.n := by simp [Xr, width]
    refine ⟨[Xv 2 nul t], _, ?_, sh1, by rw [e]; exact lit _, hv (by omega), Imp.refl _, fun _ => rfl⟩
    rw [e2, show rpV 2 nul ver flex = .i16 from rfl, rdP, Vs .i16 2 16 rfl rfl, e]; rfl
  by_cases h3 : kind = 3
  · subst h3
    have e : Xv 3 nul t = .lit (.int .i32 (IntKind.i32.wrap t.n)) := by simp [Xv]
    have e2 : Xr 3 flex (t.nul && decide (0 ≤ nul) && decide (nul ≤ ver)) p t = be 4 t.n := by simp [Xr, width]
    refine ⟨[Xv 3 nul t], _, ?_, sh1, by rw [e]; exact lit _, hv (by omega), Imp.refl _, fun _ => rfl⟩
    rw [e2, show rpV 3 nul ver flex = .i32 from rfl, rdP, Vs .i32 4 32 rfl rfl, e]; rfl
  by_cases h5 : kind = 5
  · subst h5
    have e : Xv 5 nul t = .lit (.int .u16 (IntKind.u16.wrap t.n)) := by simp [Xv]
    have e2 : Xr 5 flex (t.nul && decide (0 ≤ nul) && decide (nul ≤ ver)) p t = be 2 t.n := by simp [Xr, width]
    refine ⟨[Xv 5 nul t], _, ?_, sh1, by rw [e]; exact lit _, hv (by omega), Imp.refl _, fun _ => rfl⟩
    rw [e2, show rpV 5 nul ver flex = .u16 from rfl, rdP, Vs .u16 2 16 rfl rfl, e]; rfl
  by_cases h7 : kind = 7
  · subst h7
    have e : Xv 7 nul t = .agg ((XL t.s).map byteD) := by simp [Xv]
    have e2 : Xr 7 flex (t.nul && decide (0 ≤ nul) && decide (nul ≤ ver)) p t = XL t.s := by simp [Xr]
    refine ⟨(XL t.s).map byteD, _, ?_, ?_, ?_, hv (by omega), by rw [e]; exact imp_agg _, fun h => absurd rfl h⟩
    · rw [e2, show rpV 7 nul ver flex = .uuid from rfl, rdP, JL _ _ _ (VF _)]; rfl
    · rw [JZ, VF]; rfl
    · intro d hd
      simp only [List.mem_map] at hd
      obtain ⟨c, _, rfl⟩ := hd
      rfl
  by_cases hk8 : kind = 8
  · subst hk8
    have hs := hfit (.inl rfl)
    have hwh := UC hs
    refine ⟨[Xv 8 nul t], _, ?_, sh1, ?_, hv (by omega), Imp.refl _, fun _ => rfl⟩
    · by_cases hn : 0 ≤ nul
      · have hvv := h8 rfl hn
        have er : rpV 8 nul ver flex = (if flex then .cnstr else .nstr) := by simp [rpV, hn, hvv]
        rw [er]
        cases hb : t.nul with
        | true =>
          have e : Xv 8 nul t = .lit (.pointer none) := by simp [Xv, hn, hb]
          rw [e]
          cases flex
          · simp only [Xr, YF, hn, hvv]
            simp [rdP]
            rw [Vs .i16 2 16 rfl rfl]
            simp [JT]
          · simp only [Xr, YF, hn, hvv]
            have : XA (0 :: s) = some (0, s) := by have := Xy 0 s (by omega); rw [uvar0] at this; exact this
            simp [rdP, this]
        | false =>
          have e : Xv 8 nul t = .ptr (.lit (Yb5 t.s)) := by simp [Xv, hn, hb]
          rw [e]
          cases flex
          · simp only [Xr, YF]
            simp [rdP, hwh]
            rw [Vs .i16 2 16 rfl rfl]
            have hw : IntKind.i16.wrap (t.s.length : Int) = t.s.length := by rw [JT]; omega
            simp only [Option.bind_some, hw]
            rw [if_neg (by omega), Vd _ _ _ rfl]; rfl
          · simp only [Xr, YF]
            simp [rdP, hwh]
            rw [Xy _ _ (by omega)]
            simp only [Option.bind_some]
            rw [if_neg (by omega), Vd _ _ _ (by omega)]; rfl
      · have e : Xv 8 nul t = .lit (Yb5 t.s) := by simp [Xv, hn]
        have er : rpV 8 nul ver flex = (if flex then .cstr else .str) := by simp [rpV, hn]
        rw [e, er]
        cases flex
        · simp only [Xr, YF]
          simp [rdP, hwh, hn]
          rw [Vs .i16 2 16 rfl rfl]
          have hw : IntKind.i16.wrap (t.s.length : Int) = t.s.length := by rw [JT]; omega
          simp only [Option.bind_some, hw]
          rw [Vd _ _ _ rfl]; rfl
        · simp only [Xr, YF]
          simp [rdP, hwh, hn]
          rw [Xy _ _ (by omega)]
          simp only [Option.bind_some]
          rw [Vd _ _ _ (by omega)]; rfl
    · have : shDs [Xv 8 nul t] = shV 8 nul := sh1
      refine one _ ?_
      rw [← sh_width, Yf7]
      unfold shV
      split <;> first | rfl | skip
      repeat' split
      all_goals first | rfl | (exfalso; omega)
  by_cases hk9 : kind = 9
  · subst hk9
    have hs := hfit (.inr rfl)
    have hwh := UC hs
    by_cases hnv : 0 ≤ nul ∧ nul ≤ ver
    · have er : rpV 9 nul ver flex = (if flex then .cnbytes else .nbytes) := by simp [rpV, hnv.1, hnv.2]
      refine ⟨[Xv 9 nul t], _, ?_, sh1, ?_, ?_, Imp.refl _, fun _ => rfl⟩
      · rw [er]
        cases hb : t.nul with
        | true =>
          have e : Xv 9 nul t = .sl true [] := by simp [Xv, hnv.1, hb]
          rw [e]
          cases flex
          · simp only [Xr, YF, hnv.1, hnv.2]
            simp [rdP]
            rw [Vs .i32 4 32 rfl rfl]
            simp [IntKind.wrap_i32]
          · simp only [Xr, YF, hnv.1, hnv.2]
            have : XA (0 :: s) = some (0, s) := by have := Xy 0 s (by omega); rw [uvar0] at this; exact this
            simp [rdP, this]
        | false =>
          have e : Xv 9 nul t = .sl false (t.s.map byteD) := by simp [Xv, hnv.1, hb]
          rw [e]
          cases flex
          · simp only [Xr, YF]
            simp [rdP, hwh]
            rw [Vs .i32 4 32 rfl rfl]
            have hw : IntKind.i32.wrap (t.s.length : Int) = t.s.length := by rw [IntKind.wrap_i32]; omega
            simp only [Option.bind_some, hw]
            rw [if_neg (by omega), Vd _ _ _ rfl]; rfl
          · simp only [Xr, YF]
            simp [rdP, hwh]
            rw [Xy _ _ (by omega)]
            simp only [Option.bind_some]
            rw [if_neg (by omega), Vd _ _ _ (by omega)]; rfl
      · refine one _ ?_
        rw [← sh_width, Yf7]; simp [shV]
      · unfold Yi7; rw [if_neg (fun e => e.2 hnv)]
    · have er : rpV 9 nul ver flex = (if flex then .cbytes else .bytes) := by simp [rpV, hnv]
      have hnull : (t.nul && decide (0 ≤ nul) && decide (nul ≤ ver)) = false := by
        cases hb : t.nul with
        | false => rfl
        | true =>
          cases h1 : decide (0 ≤ nul) with
          | false => rfl
          | true => exact absurd ⟨of_decide_eq_true h1, hnul (of_decide_eq_true h1) hb⟩ hnv
      refine ⟨[.sq (t.s.map byteD)], .sq (t.s.map byteD), ?_, by simp [shDs, shD, shV], one _ rfl, ?_, Imp.refl _, fun _ => rfl⟩
      · rw [er, hnull]
        cases flex
        · simp only [Xr, YF]
          simp [rdP, hwh]
          rw [Vs .i32 4 32 rfl rfl]
          have hw : IntKind.i32.wrap (t.s.length : Int) = t.s.length := by rw [IntKind.wrap_i32]; omega
          simp only [Option.bind_some, hw]
          rw [if_neg (by omega), Vd _ _ _ rfl]; rfl
        · simp only [Xr, YF]
          simp [rdP, hwh]
          rw [Xy _ _ (by omega)]
          simp only [Option.bind_some]
          rw [if_neg (by omega), Vd _ _ _ (by omega)]; rfl
      · unfold Yi7
        rw [if_pos ⟨rfl, hnv⟩]
        exact ⟨rfl, rfl, false, rfl⟩
  · have e : Xv kind nul t = .lit (.int .i64 (IntKind.i64.wrap t.n)) := by simp [Xv, h0, h1, h2, h3, h5, h7, hk8, hk9]
    have hwd : width kind = 8 := by simp [width, h1, h2, h3, h5]
    have e2 : Xr kind flex (t.nul && decide (0 ≤ nul) && decide (nul ≤ ver)) p t = be 8 t.n := by simp [Xr, h0, h7, hk8, hk9, hk10, hwd]
    have er : rpV kind nul ver flex = .i64 := by simp [rpV, h0, h1, h2, h3, h5, h7, hk8, hk9]
    refine ⟨[Xv kind nul t], _, ?_, sh1, by rw [e]; exact lit _, hv hk9, Imp.refl _, fun _ => rfl⟩
    rw [e2, er, rdP, Vs .i64 8 64 rfl rfl, e]; rfl
end Go.Proofs.YtmihblfjhoblmaaGreatDoor

/- kbin.Uvarint at the seat (text printed by tools/uvar.py). -/
namespace Go.Proofs.YtmihblfjhoblmaaGreatDoor.Rdk
open Go Go.RowKit

set_option maxRecDepth 100000
section
variable {P : Program} {Q : Exit → Act → World → Prop} {N : Nat} {L : Sl} {w : World}
def Jmp (l N : Nat) (Lj : Sl) (Q : Exit → Act → World → Prop) (w0 : World) (X : Prop) : Exit → Act → World → Prop := Exit.jump l (fun a w => Kn N a Lj ∧ w = w0 ∧ X) Q
theorem wc_scope {c rest : Code} (l : Nat) (Lj : Sl) (X : Prop) (hf : findLabel c l = some rest) (h1 : WC c P (Jmp l N Lj Q w X) N L w) (h2 : X → WC rest P (Exit.jump l (fun _ _ => False) Q) N Lj w) : WC (.scope c) P Q N L w := by
  intro a k
  refine wp_scope_jumps l (fun a' w' => Kn N a' Lj ∧ w' = w ∧ X) (fun _ _ => 0) hf (h1 a k) (fun a' w' hJ => ?_)
  obtain ⟨hk, rfl, hx⟩ := hJ
  refine wp_mono (h2 hx a' hk) (fun e a'' w'' hq => ?_)
  cases e with
  | goto l' => exact hq.2.elim
  | _ => exact hq
theorem Ye7 {l : Nat} (h : QK (.goto l) Q N L w) : WC (.goto l) P Q N L w := fun a k => wp_goto (h a k)
theorem wc_label {l : Nat} (h : QK .normal Q N L w) : WC (.label l) P Q N L w := fun a k => wp_label (h a k)
theorem Yg6 {l : Nat} {Lj : Sl} {X : Prop} (hs : Sub Lj L) (hx : X) : QK (.goto l) (Jmp l N Lj Q w X) N L w := fun _ k => ⟨rfl, k.weaken hs, rfl, hx⟩
theorem Ue {l : Nat} {y : Code} (h : QK (.goto l) Q N L w) : QK (.goto l) (Thn P y Q) N L w := fun a k => h a k
theorem VE {l : Nat} {J : Act → World → Prop} (h : QK .ret Q N L w) : QK .ret (Exit.jump l J Q) N L w := fun a k => h a k
theorem wl_shl {ops : Array Oper} {rest : List Oper} {d : Nat} {ty : TypeId} {pos : String} {aft : Array Edge} {x : Operand} {t u : TypeId} {kk yk : IntKind} {m s r : Int} (hx : ev L x = some (.int kk m)) (hd : Nat.blt d N = true) (h0 : 0 ≤ s) (h1 : s ≤ kk.bits) (hr : kk.wrap (m * 2 ^ s.toNat) = r) (h : WL rest P ops Q N ((d, .int kk r) :: L) w) :
    WL (⟨some d, .binOp .shl t x (.const (.int yk s)) u, ty, pos, aft, none⟩ :: rest) P ops Q N L w := by
  intro a k
  exact YR (o := ⟨some d, .binOp .shl t x (.const (.int yk s)) u, ty, pos, aft, none⟩) rfl (rn_shl k hx h0 h1 hr) (h _ (k.put _ hd))
end
theorem and127b (b : Nat) (h : b < 256) : bits .and .u8 (b : Int) 127 = ((b % 128 : Nat) : Int) := by
  have := (bits_nat .u8 8 (by decide) (fun n h0 h1 => by rw [IntKind.wrap_u8]; omega) b 127 (by omega) (by omega)).1
  rw [show ((127 : Nat) : Int) = 127 from rfl] at this
  rw [this, show (127 : Nat) = 2 ^ 7 - 1 from rfl, Nat.and_two_pow_sub_one_eq_mod]
theorem and128b : ∀ b : Nat, b < 256 → bits .and .u8 (b : Int) 128 = if b < 128 then 0 else 128 := by
  intro b h
  have := (bits_nat .u8 8 (by decide) (fun n h0 h1 => by rw [IntKind.wrap_u8]; omega) b 128 (by omega) (by omega)).1
  rw [show ((128 : Nat) : Int) = 128 from rfl] at this
  rw [this]
  have key : ∀ x : Fin 256, x.val &&& 128 = if x.val < 128 then 0 else 128 := by decide
  have := key ⟨b, h⟩
  simp only [] at this
  rw [this]
  split <;> rfl
theorem or32 (a x s : Nat) (ha : a < 2 ^ s) (ha2 : a < 4294967296) (hx : x * 2 ^ s < 4294967296) : bits .or .u32 (a : Int) ((x * 2 ^ s : Nat) : Int) = ((a + x * 2 ^ s : Nat) : Int) :=
  or_add .u32 32 (by decide) (fun n h0 h1 => by rw [IntKind.wrap_u32]; omega) a x s ha ha2 hx
theorem Us (k : Nat) : uvarR k [] = none := by cases k <;> rfl
theorem cell_at {w : World} {sb o c : Nat} {s : List UInt8} (h : JY w sb (.slice (some ⟨sb, o, none⟩) s.length c) s) {i : Nat} (hi : i < s.length) : w.cell? ⟨sb, o + i * 1, none⟩ = some (.int .u8 s[i].toNat) := by
  obtain ⟨o', e, hc⟩ := h.cell hi
  cases e; exact hc
def Uw (s : List UInt8) (u n : Int) : Prop := match XA s with
  | some x => u = (x.1 : Int) ∧ ∃ m : Nat, n = (m : Int) ∧ 0 < m ∧ m ≤ s.length ∧ x.2 = s.drop m
  | none => n ≤ 0

theorem fn_uvarint (w : World) (sb : Nat) (a : Option Addr) (c : Nat) (s : List UInt8) (hsv : JY w sb (.slice a s.length c) s) :
    Calls Tryz.prog 76 #[.slice a s.length c] w fun e w' => w' = w ∧ ∃ u n : Int, e = .returned (.tuple #[.int .u32 u, .int .i64 n]) ∧ Uw s u n := by
  refine enter Tryz.func76 rfl Tryz.ntmps76 rfl ?_
  refine Yk (Yd (YA rfl rfl (YA rfl rfl (Ym (Yj ?_)))))
  refine wc_sub (L' := [(0, .slice a s.length c)]) ⟨rfl, trivial⟩ ?_
  refine wc_scope 0 [(5, .int .i64 0)] (XA s = none) rfl ?_ ?_
  · refine Yk (Yd (YA rfl rfl (Ym (Yj ?_))))
    refine Yk (Yd (YA rfl rfl (Ym (Yj ?_))))
    refine Yk (Yk (Yd ?_))
    refine ws rfl rfl ?_
    refine ws rfl rfl ?_
    refine ws rfl rfl ?_
    refine Ym (Yj ?_)
    cases s with
    | nil =>
      refine Yz rfl (by simp) (Ye7 (Ue (Yg6 ⟨rfl, trivial⟩ ?_)))
      simp only [XA, Xf, Us]
    | cons b0 s =>
      have l0 := b0.toNat_lt
      refine YE rfl (by simp; omega) (Yi (Yj ?_))
      obtain ⟨o0, rfl, hc0⟩ := hsv.cell (i := 0) (by simp)
      simp only [List.getElem_cons_zero] at hc0
      refine Yk (Yd ?_)
      refine ws rfl rfl ?_
      refine YD (i := 0) rfl rfl es_bytes rfl (by simp) ?_
      refine Xl rfl to_u8 rfl hc0 ?_
      refine Vo (r := ((b0.toNat % 128 : Nat) : Int)) rfl rfl rfl (and127b _ l0) ?_
      refine YB .u32 (r := ((b0.toNat % 128 : Nat) : Int)) rfl (by kernel_rfl) (by kernel_rfl) rfl (by rw [IntKind.wrap_u32]; omega) ?_
      refine ws rfl rfl ?_
      refine Ym (Yj ?_)
      refine Yk (Yk (Yd ?_))
      refine ws rfl rfl ?_
      refine YD (i := 0) rfl rfl es_bytes rfl (by simp) ?_
      refine Xl rfl to_u8 rfl hc0 ?_
      by_cases n0 : b0.toNat < 128
      · refine Vo (r := 0) rfl rfl rfl (by rw [and128b _ l0, if_pos n0]) ?_
        refine ws rfl rfl ?_
        refine Ym (Yj (Yz rfl (by decide) (Yk (Yd ?_))))
        refine ws rfl rfl ?_
        refine ws rfl rfl ?_
        refine ws rfl rfl ?_
        refine Ym (Yj (Yn (Ye (VE (UJ rfl rfl rfl ⟨rfl, _, _, rfl, ?_⟩)))))
        have hu : XA (b0 :: s) = some (b0.toNat % 128, s) := by
          simp only [XA, Xf]
          simp [n0]
          omega
        unfold Uw
        rw [hu]
        exact ⟨rfl, 1, rfl, by omega, by simp, rfl⟩
      refine Vo (r := 128) rfl rfl rfl (by rw [and128b _ l0, if_neg n0]) ?_
      refine ws rfl rfl ?_
      refine Ym (Yj (YE rfl (by decide) ?_))
      refine Yk (Yd ?_)
      refine ws rfl rfl ?_
      refine ws rfl rfl ?_
      refine ws rfl rfl ?_
      refine Ym (Yj ?_)
      cases s with
      | nil =>
        refine Yz rfl (by simp) (Ye7 (Ue (Yg6 ⟨rfl, trivial⟩ ?_)))
        simp only [XA, Xf, Us]; simp [n0]
      | cons b1 s =>
        have l1 := b1.toNat_lt
        refine YE rfl (by simp; omega) (Yi (Yj ?_))
        have hc1 := cell_at hsv (i := 1) (by simp)
        simp only [List.getElem_cons_succ, List.getElem_cons_zero] at hc1
        refine Yk (Yd ?_)
        refine ws rfl rfl ?_
        refine ws rfl rfl ?_
        refine YD (i := 1) rfl rfl es_bytes rfl (by simp) ?_
        refine Xl rfl to_u8 rfl hc1 ?_
        refine Vo (r := ((b1.toNat % 128 : Nat) : Int)) rfl rfl rfl (and127b _ l1) ?_
        refine YB .u32 (r := ((b1.toNat % 128 : Nat) : Int)) rfl (by kernel_rfl) (by kernel_rfl) rfl (by rw [IntKind.wrap_u32]; omega) ?_
        refine wl_shl (r := ((b1.toNat % 128 * 2 ^ 7 : Nat) : Int)) rfl rfl (by decide) (by decide) (by rw [IntKind.wrap_u32]; simp; omega) ?_
        refine Yk5 (r := ((b0.toNat % 128 + b1.toNat % 128 * 2 ^ 7 : Nat) : Int)) rfl rfl rfl (or32 _ _ _ (by omega) (by omega) (by omega)) ?_
        refine ws rfl rfl ?_
        refine Ym (Yj ?_)
        refine Yk (Yk (Yd ?_))
        refine ws rfl rfl ?_
        refine YD (i := 1) rfl rfl es_bytes rfl (by simp) ?_
        refine Xl rfl to_u8 rfl hc1 ?_
        by_cases n1 : b1.toNat < 128
        · refine Vo (r := 0) rfl rfl rfl (by rw [and128b _ l1, if_pos n1]) ?_
          refine ws rfl rfl ?_
          refine Ym (Yj (Yz rfl (by decide) (Yk (Yd ?_))))
          refine ws rfl rfl ?_
          refine ws rfl rfl ?_
          refine ws rfl rfl ?_
          refine Ym (Yj (Yn (Ye (VE (UJ rfl rfl rfl ⟨rfl, _, _, rfl, ?_⟩)))))
          have hu : XA (b0 :: b1 :: s) = some (b0.toNat % 128 + b1.toNat % 128 * 2 ^ 7, s) := by
            simp only [XA, Xf]
            simp [n0, n1]
            omega
          unfold Uw
          rw [hu]
          exact ⟨rfl, 2, rfl, by omega, by simp, rfl⟩
        refine Vo (r := 128) rfl rfl rfl (by rw [and128b _ l1, if_neg n1]) ?_
        refine ws rfl rfl ?_
        refine Ym (Yj (YE rfl (by decide) ?_))
        refine Yk (Yd ?_)
        refine ws rfl rfl ?_
        refine ws rfl rfl ?_
        refine ws rfl rfl ?_
        refine Ym (Yj ?_)
        cases s with
        | nil =>
          refine Yz rfl (by simp) (Ye7 (Ue (Yg6 ⟨rfl, trivial⟩ ?_)))
          simp only [XA, Xf, Us]; simp [n0, n1]
        | cons b2 s =>
          have l2 := b2.toNat_lt
          refine YE rfl (by simp; omega) (Yi (Yj ?_))
          have hc2 := cell_at hsv (i := 2) (by simp)
          simp only [List.getElem_cons_succ, List.getElem_cons_zero] at hc2
          refine Yk (Yd ?_)
          refine ws rfl rfl ?_
          refine ws rfl rfl ?_
          refine YD (i := 2) rfl rfl es_bytes rfl (by simp) ?_
          refine Xl rfl to_u8 rfl hc2 ?_
          refine Vo (r := ((b2.toNat % 128 : Nat) : Int)) rfl rfl rfl (and127b _ l2) ?_
          refine YB .u32 (r := ((b2.toNat % 128 : Nat) : Int)) rfl (by kernel_rfl) (by kernel_rfl) rfl (by rw [IntKind.wrap_u32]; omega) ?_
          refine wl_shl (r := ((b2.toNat % 128 * 2 ^ 14 : Nat) : Int)) rfl rfl (by decide) (by decide) (by rw [IntKind.wrap_u32]; simp; omega) ?_
          refine Yk5 (r := ((b0.toNat % 128 + b1.toNat % 128 * 2 ^ 7 + b2.toNat % 128 * 2 ^ 14 : Nat) : Int)) rfl rfl rfl (or32 _ _ _ (by omega) (by omega) (by omega)) ?_
          refine ws rfl rfl ?_
          refine Ym (Yj ?_)
          refine Yk (Yk (Yd ?_))
          refine ws rfl rfl ?_
          refine YD (i := 2) rfl rfl es_bytes rfl (by simp) ?_
          refine Xl rfl to_u8 rfl hc2 ?_
          by_cases n2 : b2.toNat < 128
          · refine Vo (r := 0) rfl rfl rfl (by rw [and128b _ l2, if_pos n2]) ?_
            refine ws rfl rfl ?_
            refine Ym (Yj (Yz rfl (by decide) (Yk (Yd ?_))))
            refine ws rfl rfl ?_
            refine ws rfl rfl ?_
            refine ws rfl rfl ?_
            refine Ym (Yj (Yn (Ye (VE (UJ rfl rfl rfl ⟨rfl, _, _, rfl, ?_⟩)))))
            have hu : XA (b0 :: b1 :: b2 :: s) = some (b0.toNat % 128 + b1.toNat % 128 * 2 ^ 7 + b2.toNat % 128 * 2 ^ 14, s) := by
              simp only [XA, Xf]
              simp [n0, n1, n2]
              omega
            unfold Uw
            rw [hu]
            exact ⟨rfl, 3, rfl, by omega, by simp, rfl⟩
          refine Vo (r := 128) rfl rfl rfl (by rw [and128b _ l2, if_neg n2]) ?_
          refine ws rfl rfl ?_
          refine Ym (Yj (YE rfl (by decide) ?_))
          refine Yk (Yd ?_)
          refine ws rfl rfl ?_
          refine ws rfl rfl ?_
          refine ws rfl rfl ?_
          refine Ym (Yj ?_)
          cases s with
          | nil =>
            refine Yz rfl (by simp) (Ye7 (Ue (Yg6 ⟨rfl, trivial⟩ ?_)))
            simp only [XA, Xf, Us]; simp [n0, n1, n2]
          | cons b3 s =>
            have l3 := b3.toNat_lt
            refine YE rfl (by simp; omega) (Yi (Yj ?_))
            have hc3 := cell_at hsv (i := 3) (by simp)
            simp only [List.getElem_cons_succ, List.getElem_cons_zero] at hc3
            refine Yk (Yd ?_)
            refine ws rfl rfl ?_
            refine ws rfl rfl ?_
            refine YD (i := 3) rfl rfl es_bytes rfl (by simp) ?_
            refine Xl rfl to_u8 rfl hc3 ?_
            refine Vo (r := ((b3.toNat % 128 : Nat) : Int)) rfl rfl rfl (and127b _ l3) ?_
            refine YB .u32 (r := ((b3.toNat % 128 : Nat) : Int)) rfl (by kernel_rfl) (by kernel_rfl) rfl (by rw [IntKind.wrap_u32]; omega) ?_
            refine wl_shl (r := ((b3.toNat % 128 * 2 ^ 21 : Nat) : Int)) rfl rfl (by decide) (by decide) (by rw [IntKind.wrap_u32]; simp; omega) ?_
            refine Yk5 (r := ((b0.toNat % 128 + b1.toNat % 128 * 2 ^ 7 + b2.toNat % 128 * 2 ^ 14 + b3.toNat % 128 * 2 ^ 21 : Nat) : Int)) rfl rfl rfl (or32 _ _ _ (by omega) (by omega) (by omega)) ?_
            refine ws rfl rfl ?_
            refine Ym (Yj ?_)
            refine Yk (Yk (Yd ?_))
            refine ws rfl rfl ?_
            refine YD (i := 3) rfl rfl es_bytes rfl (by simp) ?_
            refine Xl rfl to_u8 rfl hc3 ?_
            by_cases n3 : b3.toNat < 128
            · refine Vo (r := 0) rfl rfl rfl (by rw [and128b _ l3, if_pos n3]) ?_
              refine ws rfl rfl ?_
              refine Ym (Yj (Yz rfl (by decide) (Yk (Yd ?_))))
              refine ws rfl rfl ?_
              refine ws rfl rfl ?_
              refine ws rfl rfl ?_
              refine Ym (Yj (Yn (Ye (VE (UJ rfl rfl rfl ⟨rfl, _, _, rfl, ?_⟩)))))
              have hu : XA (b0 :: b1 :: b2 :: b3 :: s) = some (b0.toNat % 128 + b1.toNat % 128 * 2 ^ 7 + b2.toNat % 128 * 2 ^ 14 + b3.toNat % 128 * 2 ^ 21, s) := by
                simp only [XA, Xf]
                simp [n0, n1, n2, n3]
                omega
              unfold Uw
              rw [hu]
              exact ⟨rfl, 4, rfl, by omega, by simp, rfl⟩
            refine Vo (r := 128) rfl rfl rfl (by rw [and128b _ l3, if_neg n3]) ?_
            refine ws rfl rfl ?_
            refine Ym (Yj (YE rfl (by decide) ?_))
            refine Yk (Yd ?_)
            refine ws rfl rfl ?_
            refine ws rfl rfl ?_
            refine ws rfl rfl ?_
            refine Ym (Yj ?_)
            cases s with
            | nil =>
              refine Yz rfl (by simp) (Ye7 (Ue (Yg6 ⟨rfl, trivial⟩ ?_)))
              simp only [XA, Xf, Us]; simp [n0, n1, n2, n3]
            | cons b4 s =>
              have l4 := b4.toNat_lt
              refine YE rfl (by simp; omega) (Yi (Yj ?_))
              have hc4 := cell_at hsv (i := 4) (by simp)
              simp only [List.getElem_cons_succ, List.getElem_cons_zero] at hc4
              refine Yk (Yd ?_)
              refine ws rfl rfl ?_
              refine ws rfl rfl ?_
              refine YD (i := 4) rfl rfl es_bytes rfl (by simp) ?_
              refine Xl rfl to_u8 rfl hc4 ?_
              refine YB .u32 (r := (b4.toNat : Int)) rfl (by kernel_rfl) (by kernel_rfl) rfl (by rw [IntKind.wrap_u32]; omega) ?_
              refine wl_shl (r := ((b4.toNat % 16 * 2 ^ 28 : Nat) : Int)) rfl rfl (by decide) (by decide) (by rw [IntKind.wrap_u32]; simp; omega) ?_
              refine Yk5 (r := ((b0.toNat % 128 + b1.toNat % 128 * 2 ^ 7 + b2.toNat % 128 * 2 ^ 14 + b3.toNat % 128 * 2 ^ 21 + b4.toNat % 16 * 2 ^ 28 : Nat) : Int)) rfl rfl rfl (or32 _ _ _ (by omega) (by omega) (by omega)) ?_
              refine ws rfl rfl ?_
              refine Ym (Yj ?_)
              refine Yk (Yk (Yd ?_))
              refine ws rfl rfl ?_
              refine YD (i := 4) rfl rfl es_bytes rfl (by simp) ?_
              refine Xl rfl to_u8 rfl hc4 ?_
              refine ws rfl rfl ?_
              refine Ym (Yj ?_)
              by_cases n4 : b4.toNat ≤ 15
              · refine Yz rfl (by simp; omega) (Yk (Yd ?_))
                refine ws rfl rfl ?_
                refine ws rfl rfl ?_
                refine ws rfl rfl ?_
                refine Ym (Yj (Yn (Ye (VE (UJ rfl rfl rfl ⟨rfl, _, _, rfl, ?_⟩)))))
                have hu : XA (b0 :: b1 :: b2 :: b3 :: b4 :: s) = some (b0.toNat % 128 + b1.toNat % 128 * 2 ^ 7 + b2.toNat % 128 * 2 ^ 14 + b3.toNat % 128 * 2 ^ 21 + b4.toNat % 16 * 2 ^ 28, s) := by
                  simp only [XA, Xf]
                  simp [n0, n1, n2, n3, n4]
                  omega
                unfold Uw
                rw [hu]
                exact ⟨rfl, 5, rfl, by omega, by simp, rfl⟩
              · refine YE rfl (by simp; omega) (Yi (Yj ?_))
                refine Yk (Yd (YA rfl rfl (Ym (Yj ?_))))
                refine Yk (wc_label (Yj ?_))
                refine Yk (Yd ?_)
                refine ws rfl rfl ?_
                refine ws rfl rfl ?_
                refine ws rfl rfl ?_
                refine Ym (Yj (Yn (VE (UJ rfl rfl rfl ⟨rfl, _, _, rfl, ?_⟩))))
                have hu : XA (b0 :: b1 :: b2 :: b3 :: b4 :: s) = none := by simp only [XA, Xf]; simp [n0, n1, n2, n3, n4]
                unfold Uw
                rw [hu]
                show (-5 : Int) ≤ 0; decide
  · intro hu
    refine Yk (Yi (Yj ?_))
    refine Yk (Yd ?_)
    refine ws rfl rfl ?_
    refine ws rfl rfl ?_
    refine ws rfl rfl ?_
    refine Ym (Yj (Yn (VE (UJ rfl rfl rfl ⟨rfl, _, _, rfl, ?_⟩))))
    unfold Uw
    rw [hu]
    exact Int.le_refl 0
end Go.Proofs.YtmihblfjhoblmaaGreatDoor.Rdk

/- The package's reader at the seat: counts, texts. -/
namespace Go.Proofs.YtmihblfjhoblmaaGreatDoor.Rdk
open Go Go.RowKit

set_option maxRecDepth 100000
theorem foldl_push (ns : List UInt8) : ∀ (s : List UInt8), (ns.map fun c => (c.toNat : Int)).foldl (fun (r : ByteArray) n => r.push (UInt8.ofNat n.toNat)) ⟨s.toArray⟩ = ⟨(s ++ ns).toArray⟩ := by
  induction ns with
  | nil => intro s; simp
  | cons c ns ih =>
    intro s
    simp only [List.map_cons, List.foldl_cons]
    have : (ByteArray.mk s.toArray).push (UInt8.ofNat (c.toNat : Int).toNat) = ⟨(s ++ [c]).toArray⟩ := by
      simp [ByteArray.push]
    rw [this, ih]
    simp
section
variable {P : Program} {ops : Array Oper} {Q : Exit → Act → World → Prop} {N : Nat} {rest : List Oper} {L : Sl} {w : World} {d : Nat} {ty : TypeId} {pos : String} {aft : Array Edge}
theorem wl_extract {x : Operand} {i : Nat} {cs : Array Value} {v : Value} (hx : ev L x = some (.tuple cs)) (hv : cs[i]? = some v) (hd : Nat.blt d N = true) (h : WL rest P ops Q N ((d, v) :: L) w) : WL (⟨some d, .extract x i, ty, pos, aft, none⟩ :: rest) P ops Q N L w := by
  intro a k
  refine YR (o := ⟨some d, .extract x i, ty, pos, aft, none⟩) rfl ?_ (h _ (k.put _ hd))
  simp [execOp, k.eval hx, Instr.extract, hv]
theorem Yd9 {x : Operand} {s t : TypeId} {sb : Nat} {v : Value} {bs : List UInt8} (hx : ev L x = some v) (hv : JY w sb v bs) (hs : (match P.underlying s with | some (.slice e) => (match P.underlying e with | some (.int .u8) => true | _ => false) | _ => false) = true) (ht : (match P.underlying t with | some .string => true | _ => false) = true) (hd : Nat.blt d N = true)
    (h : WL rest P ops Q N ((d, Yb5 bs) :: L) w) : WL (⟨some d, .convert s t x, ty, pos, aft, none⟩ :: rest) P ops Q N L w := by
  intro a k
  refine YR (o := ⟨some d, .convert s t x, ty, pos, aft, none⟩) (v := Yb5 bs) (w' := w) rfl ?_ (h _ (k.put _ hd))
  split at hs
  · rename_i e he
    split at hs
    · rename_i he8
      split at ht
      · rename_i hst
        have key : (Conv.bytesToString v).run P w = .ok (Yb5 bs) w := by
          rcases hv with ⟨rfl, rfl⟩ | ⟨o, c, rfl, hle, hcs⟩
          · simp [Conv.bytesToString, Yb5]; rfl
          · have hl := run_loadCells_list (P := P) w ⟨sb, o, none⟩ (bv bs) (fun j v e => by rw [YN _ _ rfl]; exact hcs.cell e)
            rw [bv_len] at hl
            have hb : bv bs = (bs.map fun c => (c.toNat : Int)).map (Value.int .u8) := by simp [bv]
            rw [hb] at hl
            rw [run_bytesToString w ⟨sb, o, none⟩ bs.length c _ hl]
            have := foldl_push bs []
            simp only [List.nil_append] at this
            rw [Yb5, ← this]; rfl
        obtain ⟨a', l', c', rfl⟩ : ∃ a' l' c', v = .slice a' l' c' := by
          rcases hv with ⟨rfl, _⟩ | ⟨o, c, rfl, _⟩ <;> exact ⟨_, _, _, rfl⟩
        simp only [execOp, k.eval hx, Sem.run_bind, run_convert_bytes_string w s t e a' l' c' he he8 hst, key, Result.andThen_ok, Sem.run_pure]
      · cases ht
    · cases hs
  · cases hs
end
theorem uvarR_lt : ∀ (k : Nat) (s : List UInt8) (x : Nat × List UInt8), uvarR (k + 1) s = some x → x.1 < 16 * 128 ^ k ∧ x.2.length ≤ s.length
  | k, [], x, h => by rw [Us] at h; cases h
  | 0, c :: r, x, h => by
    rw [Xf, if_pos rfl] at h
    split at h
    · cases h; exact ⟨by simp; omega, by simp⟩
    · cases h
  | k + 1, c :: r, x, h => by
    rw [Xf, if_neg (by omega)] at h
    have hp : 1 ≤ 128 ^ k := Nat.pow_pos (by omega)
    split at h
    · cases h; exact ⟨by simp only [Nat.pow_succ]; omega, by simp⟩
    · split at h
      · rename_i n r' hr
        cases h
        obtain ⟨h1, h2⟩ := uvarR_lt k r (n, r') hr
        have := c.toNat_lt
        simp only [] at h1 h2 ⊢
        exact ⟨by simp only [Nat.pow_succ]; omega, by simp; omega⟩
      · cases h
theorem uvarP_lt {s : List UInt8} {x : Nat × List UInt8} (h : XA s = some x) : x.1 < 4294967296 ∧ x.2.length ≤ s.length := by
  have := uvarR_lt 4 s x h
  exact ⟨by omega, this.2⟩
def UvRel (st : Option (List UInt8)) (u : Nat) (st' : Option (List UInt8)) : Prop := u < 4294967296 ∧ match st with
  | none => st' = none
  | some s => match XA s with
    | some x => st' = some x.2 ∧ u = x.1
    | none => st' = none
theorem Ym5 (w : World) (rb sb : Nat) (st : Option (List UInt8)) (hr : Rdr w rb sb st) (hne : rb ≠ sb) :
    Calls Tryz.prog 67 #[.pointer (some ⟨rb, 0, none⟩)] w fun e w' => ∃ (u : Nat) (st' : Option (List UInt8)), e = .returned (.int .u32 (u : Int)) ∧ Chg (· = rb) w w' ∧ Rdr w' rb sb st' ∧ UvRel st u st' := by
  obtain ⟨a, c, s, e, hb, hle, hlim, hsv, hst⟩ := hr.view
  refine enter Tryz.func67 rfl Tryz.ntmps67 rfl ?_
  refine Yk (Yd (YA rfl rfl (Ym (Yj ?_))))
  refine Yk (Yd ?_)
  refine ws rfl rfl ?_
  refine ws rfl rfl ?_
  refine ws rfl rfl ?_
  refine Yv rfl to_bytes rfl hb rfl ?_
  refine Yu rfl (by kernel_rfl) rfl ((fn_uvarint w sb a c s hsv).mono ?_)
  rintro en w' ⟨rfl, u, n, rfl, hrel⟩
  refine ⟨_, rfl, ?_⟩
  refine Xw rfl rfl ?_
  refine wl_extract rfl rfl rfl ?_
  refine wl_extract rfl rfl rfl ?_
  refine ws rfl rfl ?_
  refine ws rfl rfl ?_
  refine Ym (Yj ?_)
  refine Yk (Yk (Yd ?_))
  refine ws rfl rfl ?_
  refine ws rfl rfl ?_
  refine Ym (Yj ?_)
  unfold Uw at hrel
  cases hp : XA s with
  | none =>
    rw [hp] at hrel
    simp only [] at hrel
    refine Yz rfl (by simpa using hrel) ?_
    refine Yk (Yd ?_)
    refine ws rfl rfl ?_
    refine ws rfl rfl ?_
    refine ws rfl rfl ?_
    refine YJ rfl rfl to_bool rfl hb rfl (fun w1 hb1 g1 _ => ?_)
    refine Ym (Yj ?_)
    refine Yk (Yd ?_)
    refine ws rfl rfl ?_
    refine ws rfl rfl ?_
    refine ws rfl rfl ?_
    refine YJ rfl rfl to_bytes rfl hb1 rfl (fun w2 hb2 g2 _ => ?_)
    refine Ym (Yj ?_)
    refine Yk (Yd ?_)
    refine ws rfl rfl ?_
    refine Ym (Yj (Yn (Ye (Yt rfl rfl ?_))))
    refine ⟨0, none, rfl, (Chg.grown g1).trans (Chg.grown g2), ⟨e, hb2⟩, by decide, ?_⟩
    rcases hst with ⟨rfl, _⟩ | rfl
    · rfl
    · simp only [hp]
  | some x =>
    rw [hp] at hrel
    simp only [] at hrel
    obtain ⟨rfl, m, rfl, hm0, hm, hx2⟩ := hrel
    obtain rfl : st = some s := by
      rcases hst with ⟨_, rfl, _⟩ | h
      · simp at hm; omega
      · exact h
    refine YE rfl (by simp; omega) (Yi (Yj (Yk (Yd ?_))))
    refine ws rfl rfl ?_
    refine ws rfl rfl ?_
    refine ws rfl rfl ?_
    refine ws rfl rfl ?_
    refine Yv rfl to_bytes rfl hb rfl ?_
    refine ws rfl rfl ?_
    refine Uv (m := m) rfl rfl es_bytes rfl hm ?_
    refine ws rfl rfl ?_
    refine ws rfl rfl ?_
    refine YJ rfl rfl to_bytes rfl hb rfl (fun w1 hb1 g1 _ => ?_)
    refine Ym (Yj (Yk (Yd ?_)))
    refine ws rfl rfl ?_
    refine ws rfl rfl ?_
    refine Ym (Yj (Yn (Yt rfl rfl ?_)))
    have hg := Chg.grown g1
    refine ⟨x.1, some (s.drop m), rfl, hg, ((hsv.drop hm).chg hg (fun e => hne e.symm)).rdr hb1 (by simp; omega), (uvarP_lt hp).1, ?_⟩
    simp only [hp, hx2, and_self]
end Go.Proofs.YtmihblfjhoblmaaGreatDoor.Rdk

/- The package's reader at the seat: counts, texts, octets (text printed by tools/lens.py). -/
namespace Go.Proofs.YtmihblfjhoblmaaGreatDoor.Rdk
open Go Go.RowKit

set_option maxRecDepth 100000
def IntRel (k : IntKind) (n : Nat) (st : Option (List UInt8)) (m : Int) (st' : Option (List UInt8)) : Prop := match st with
  | none => st' = none
  | some s => match Yd4 k n s with
    | some x => st' = some x.2 ∧ m = x.1
    | none => st' = none
theorem Yg3 {P : Program} {f : Nat} {p : Rp} (h : RdC P f p) (k : IntKind) (n : Nat) (hp : ∀ s, rdP p s = (Yd4 k n s).map fun x => ([.lit (.int k x.1)], x.2)) (hsh : shR p = [.int k]) (w : World) (rb sb lo : Nat) (st : Option (List UInt8)) (hr : Rdr w rb sb st) (h1 : rb < lo) (h2 : sb < lo) (h3 : lo ≤ w.heap.size) (h4 : rb ≠ sb) :
    Calls P f #[.pointer (some ⟨rb, 0, none⟩)] w fun e w' => ∃ m st', e = .returned (.int k m) ∧ k.wrap m = m ∧ Chg (· = rb) w w' ∧ Rdr w' rb sb st' ∧ IntRel k n st m st' := by
  refine (h w rb sb lo st hr h1 h2 h3 h4).mono (fun e w' he => ?_)
  obtain ⟨v, nd, st', rfl, hc, hr', hrep, hall, hone, hrel⟩ := he
  have hv1 := hone (by rw [hsh]; rfl)
  have hlist : v.cells.toList = [v] := by rw [hv1]
  rw [hlist] at hrep
  have hck := Yh2 _ _ hrep 0 (.int k) v (by rw [hrel.1, hsh]; rfl) rfl
  obtain ⟨m, rfl, hwr⟩ := hck
  refine ⟨m, st', rfl, hwr, hc, hr', ?_⟩
  have h3 := hrel.2.2
  cases st with
  | none => exact h3
  | some s =>
    simp only [hp] at h3
    simp only [IntRel]
    cases hx : Yd4 k n s with
    | none => rw [hx] at h3; exact h3
    | some x =>
      rw [hx] at h3
      simp only [Option.map_some] at h3
      obtain ⟨e1, rfl⟩ := h3
      simp only [YX, Rep] at hrep
      obtain ⟨c1, c2, e2, rfl, rfl⟩ := hrep
      simp only [List.append_nil, List.cons.injEq, Value.int.injEq, true_and, and_true] at e2
      exact ⟨e1, e2⟩
/-- A count ahead of it is held against what lies ahead. -/
def preP (c : Bool) (s : List UInt8) : Option (Int × List UInt8) := if c then (XA s).map fun x => (IntKind.i32.wrap (IntKind.i32.wrap x.1 - 1), x.2) else Yd4 .i32 4 s
def Yf6 (c : Bool) (st : Option (List UInt8)) (m : Int) (st' : Option (List UInt8)) : Prop := match st with
  | none => st' = none
  | some s => match preP c s with
    | some x => st' = some x.2 ∧ m = x.1
    | none => st' = none
theorem len_fail {X : Prop} {c : Bool} {st st1 : Option (List UInt8)} {m l : Int} {s1 : List UInt8} (h : Yf6 c st m st1) (hv : (st1 = none ∧ s1 = [] ∧ X) ∨ st1 = some s1) (hlt : (s1.length : Int) < m) : Um c st l none := by
  unfold Um
  unfold Yf6 at h
  cases st with
  | none => rfl
  | some s =>
    simp only [] at h ⊢
    have e : lenP c s = (preP c s).bind fun x => if (x.2.length : Int) < x.1 then none else some x := rfl
    rw [e]
    cases hx : preP c s with
    | none => simp
    | some x =>
      rw [hx] at h
      obtain ⟨rfl, rfl⟩ := h
      rcases hv with ⟨hv, _⟩ | hv
      · cases hv
      · simp only [Option.some.injEq] at hv
        subst hv
        simp only [Option.bind_some]
        rw [if_pos hlt]
        trivial
theorem len_ok {X : Prop} {c : Bool} {st st1 : Option (List UInt8)} {m : Int} {s1 : List UInt8} (h : Yf6 c st m st1) (hv : (st1 = none ∧ s1 = [] ∧ X) ∨ st1 = some s1) (hlt : ¬ (s1.length : Int) < m) : Um c st m st1 := by
  unfold Um
  unfold Yf6 at h
  cases st with
  | none => exact h
  | some s =>
    simp only [] at h ⊢
    have e : lenP c s = (preP c s).bind fun x => if (x.2.length : Int) < x.1 then none else some x := rfl
    rw [e]
    cases hx : preP c s with
    | none => rw [hx] at h; exact h
    | some x =>
      rw [hx] at h
      obtain ⟨rfl, rfl⟩ := h
      rcases hv with ⟨hv, _⟩ | hv
      · cases hv
      · simp only [Option.some.injEq] at hv
        subst hv
        simp only [Option.bind_some]
        rw [if_neg hlt]
        exact ⟨rfl, rfl⟩

theorem len_ArrayLen : LenC Tryz.prog 45 false := by
  intro w rb sb lo st hr h1 h2 h3 h4
  refine enter Tryz.func45 rfl Tryz.ntmps45 rfl ?_
  refine Yk (Yd (YA rfl rfl (Ym (Yj ?_))))
  refine Yk (Yd ?_)
  refine ws rfl rfl ?_
  refine Yu rfl (by kernel_rfl) rfl ((Yg3 rd_Int32 .i32 4 (fun s => rfl) rfl w rb sb lo st hr h1 h2 h3 h4).mono ?_)
  rintro en w1 ⟨m, st1, rfl, hwr, hc1, hr1, hrel⟩
  refine ⟨_, rfl, ?_⟩
  refine ws rfl rfl ?_
  refine Ym (Yj ?_)
  have hs1 := hc1.size
  have hpre : Yf6 false st m st1 := by
    cases st with
    | none => exact hrel
    | some s => exact hrel
  have hrange : IntKind.i64.wrap m = m := by rw [IntKind.wrap_i32] at hwr; rw [IntKind.wrap_i64]; omega
  obtain ⟨a, c, s1, e, hb, hle, hlim, hsv, hst⟩ := hr1.view
  refine Yk (Yk (Yd ?_))
  refine ws rfl rfl ?_
  refine ws rfl rfl ?_
  refine ws rfl rfl ?_
  refine Yv rfl to_bytes rfl hb rfl ?_
  refine ws rfl rfl ?_
  refine ws rfl rfl ?_
  refine YB .i64 rfl (by kernel_rfl) (by kernel_rfl) rfl hrange ?_
  refine ws rfl rfl ?_
  refine Ym (Yj ?_)
  refine VD rfl (fun hc => ?_) (fun hc => ?_)
  · refine Yk (Yd ?_)
    refine ws rfl rfl ?_
    refine ws rfl rfl ?_
    refine ws rfl rfl ?_
    refine YJ rfl rfl to_bool rfl hb rfl (fun w1 hb1 g1 _ => ?_)
    refine Ym (Yj ?_)
    refine Yk (Yd ?_)
    refine ws rfl rfl ?_
    refine ws rfl rfl ?_
    refine ws rfl rfl ?_
    refine YJ rfl rfl to_bytes rfl hb1 rfl (fun w2 hb2 g2 _ => ?_)
    refine Ym (Yj ?_)
    refine Yk (Yd ?_)
    refine ws rfl rfl ?_
    refine Ym (Yj (Yn (Ye (Yt rfl rfl ?_))))
    exact ⟨0, none, rfl, hc1.trans ((Chg.grown g1).trans (Chg.grown g2)), ⟨e, hb2⟩, len_fail hpre hst (by simpa using hc)⟩
  · refine Yi (Yj (Yk (Yd ?_)))
    refine ws rfl rfl ?_
    refine ws rfl rfl ?_
    exact Ym (Yj (Yn (Yt rfl rfl ⟨_, st1, rfl, hc1, hr1, len_ok hpre hst (by simpa using hc)⟩)))
theorem len_CompactArrayLen : LenC Tryz.prog 44 true := by
  intro w rb sb lo st hr h1 h2 h3 h4
  refine enter Tryz.func44 rfl Tryz.ntmps44 rfl ?_
  refine Yk (Yd (YA rfl rfl (Ym (Yj ?_))))
  refine Yk (Yd ?_)
  refine ws rfl rfl ?_
  refine Yu rfl (by kernel_rfl) rfl ((Ym5 w rb sb st hr h4).mono ?_)
  rintro en w1 ⟨u, st1, rfl, hc1, hr1, hrel⟩
  refine ⟨_, rfl, ?_⟩
  refine YB .i32 (r := IntKind.i32.wrap u) rfl (by kernel_rfl) (by kernel_rfl) rfl rfl ?_
  refine UF (r := IntKind.i32.wrap (IntKind.i32.wrap u - 1)) rfl rfl rfl rfl ?_
  refine ws rfl rfl ?_
  refine Ym (Yj ?_)
  have hs1 := hc1.size
  have hpre : Yf6 true st (IntKind.i32.wrap (IntKind.i32.wrap u - 1)) st1 := by
    cases st with
    | none => exact hrel.2
    | some s =>
      have h5 := hrel.2
      simp only [Yf6, preP, if_true] at h5 ⊢
      cases hx : XA s with
      | none => rw [hx] at h5; exact h5
      | some x => rw [hx] at h5; obtain ⟨rfl, rfl⟩ := h5; exact ⟨rfl, rfl⟩
  have hrange : IntKind.i64.wrap (IntKind.i32.wrap (IntKind.i32.wrap u - 1)) = IntKind.i32.wrap (IntKind.i32.wrap u - 1) := by simp only [IntKind.wrap_i32]; rw [IntKind.wrap_i64]; omega
  obtain ⟨a, c, s1, e, hb, hle, hlim, hsv, hst⟩ := hr1.view
  refine Yk (Yk (Yd ?_))
  refine ws rfl rfl ?_
  refine ws rfl rfl ?_
  refine ws rfl rfl ?_
  refine Yv rfl to_bytes rfl hb rfl ?_
  refine ws rfl rfl ?_
  refine ws rfl rfl ?_
  refine YB .i64 rfl (by kernel_rfl) (by kernel_rfl) rfl hrange ?_
  refine ws rfl rfl ?_
  refine Ym (Yj ?_)
  refine VD rfl (fun hc => ?_) (fun hc => ?_)
  · refine Yk (Yd ?_)
    refine ws rfl rfl ?_
    refine ws rfl rfl ?_
    refine ws rfl rfl ?_
    refine YJ rfl rfl to_bool rfl hb rfl (fun w1 hb1 g1 _ => ?_)
    refine Ym (Yj ?_)
    refine Yk (Yd ?_)
    refine ws rfl rfl ?_
    refine ws rfl rfl ?_
    refine ws rfl rfl ?_
    refine YJ rfl rfl to_bytes rfl hb1 rfl (fun w2 hb2 g2 _ => ?_)
    refine Ym (Yj ?_)
    refine Yk (Yd ?_)
    refine ws rfl rfl ?_
    refine Ym (Yj (Yn (Ye (Yt rfl rfl ?_))))
    exact ⟨0, none, rfl, hc1.trans ((Chg.grown g1).trans (Chg.grown g2)), ⟨e, hb2⟩, len_fail hpre hst (by simpa using hc)⟩
  · refine Yi (Yj (Yk (Yd ?_)))
    refine ws rfl rfl ?_
    refine ws rfl rfl ?_
    exact Ym (Yj (Yn (Yt rfl rfl ⟨_, st1, rfl, hc1, hr1, len_ok hpre hst (by simpa using hc)⟩)))

theorem bytes_ty : (match Tryz.prog.underlying 24 with | some (.slice e) => (match Tryz.prog.underlying e with | some (.int .u8) => true | _ => false) | _ => false) = true := by kernel_rfl
theorem str_ty : (match Tryz.prog.underlying 9 with | some .string => true | _ => false) = true := by kernel_rfl
/-- The count ahead of a text. -/
def cntP (c : Bool) (k : IntKind) (n : Nat) (s : List UInt8) : Option (Int × List UInt8) := if c then (XA s).map fun x => ((x.1 : Int) - 1, x.2) else Yd4 k n s
def Uk (c : Bool) (k : IntKind) (n : Nat) (st : Option (List UInt8)) (m : Int) (st' : Option (List UInt8)) : Prop := match st with
  | none => st' = none
  | some s => match cntP c k n s with
    | some x => st' = some x.2 ∧ m = x.1
    | none => st' = none
theorem cnt_i {k : IntKind} {n : Nat} {st st' : Option (List UInt8)} {m : Int} (h : IntRel k n st m st') : Uk false k n st m st' := by
  cases st with
  | none => exact h
  | some s => exact h
theorem cnt_u {k : IntKind} {n : Nat} {st st' : Option (List UInt8)} {u : Nat} (h : UvRel st u st') : Uk true k n st ((u : Int) - 1) st' := by
  have h2 := h.2
  cases st with
  | none => exact h2
  | some s =>
    simp only [Uk, cntP, if_true] at h2 ⊢
    cases hx : XA s with
    | none => rw [hx] at h2; exact h2
    | some x => rw [hx] at h2; obtain ⟨rfl, rfl⟩ := h2; exact ⟨rfl, rfl⟩
def Yl1 (c : Bool) (k : IntKind) (n : Nat) (st : Option (List UInt8)) (s1 : List UInt8) (st2 : Option (List UInt8)) : Prop := match st with
  | none => st2 = none
  | some s => match (cntP c k n s).bind fun x => Up x.1 x.2 with
    | some y => st2 = some y.2 ∧ s1 = y.1
    | none => st2 = none
theorem Ye5 {c : Bool} {k : IntKind} {n : Nat} {st st1 st2 : Option (List UInt8)} {m : Int} {s1 : List UInt8} (h : Uk c k n st m st1) (h2 : Jt m st1 s1 st2) : Yl1 c k n st s1 st2 := by
  unfold Yl1
  cases st with
  | none => simp only [Uk] at h; subst h; exact h2
  | some s =>
    simp only [Uk] at h
    simp only []
    cases hx : cntP c k n s with
    | none => rw [hx] at h; simp only [] at h; subst h; exact h2
    | some x =>
      rw [hx] at h
      obtain ⟨rfl, rfl⟩ := h
      simp only [Option.bind_some]
      exact h2


theorem Rdr.box' {w : World} {rb sb : Nat} {st : Option (List UInt8)} (h : Rdr w rb sb st) : rb < w.heap.size := by
  obtain ⟨_, _, _, _, hb, _⟩ := h.view
  exact hb.lt
theorem new_only {w w1 w2 : World} {rb : Nat} (h1 : Chg (fun _ => False) w w1) (h2 : Chg (· = w.heap.size) w1 w2) : Chg (· = rb) w w2 :=
  ⟨h2.os.trans h1.os, h2.tape.trans h1.tape, h2.output.trans h1.output, Nat.le_trans h1.size h2.size, fun k hk _ => (h2.block k (Nat.lt_of_lt_of_le hk h1.size) (fun e => by have e' : k = w.heap.size := e; omega)).trans (h1.block k hk id)⟩
theorem zv_str (w : World) : (zeroValue 9).run Tryz.prog w = .ok (.string ByteArray.empty) w := by kernel_rfl
theorem to_str : XS Tryz.prog 9 = true := by kernel_rfl
theorem str_rel {c : Bool} {st st2 : Option (List UInt8)} {s1 : List UInt8} (h : Yl1 c .i16 2 st s1 st2) : Yf3 (if c then .cstr else .str) st [D.lit (Yb5 s1)] st2 := by
  refine ⟨by cases c <;> rfl, fun d hd => by simp at hd; subst hd; rfl, ?_⟩
  unfold Yl1 at h
  cases st with
  | none => exact h
  | some s =>
    simp only [] at h ⊢
    have e : rdP (if c then .cstr else .str) s = ((cntP c .i16 2 s).bind fun x => Up x.1 x.2).map fun y => ([.lit (Yb5 y.1)], y.2) := by
      cases c
      · simp only [Bool.false_eq_true, if_false, rdP, cntP]
        cases Yd4 .i16 2 s <;> rfl
      · simp only [if_true, rdP, cntP]
        cases XA s <;> rfl
    rw [e]
    cases hx : (cntP c .i16 2 s).bind fun x => Up x.1 x.2 with
    | none => rw [hx] at h; exact h
    | some y => rw [hx] at h; obtain ⟨rfl, rfl⟩ := h; exact ⟨rfl, rfl⟩
theorem nul_rel {c : Bool} {st st1 : Option (List UInt8)} {m : Int} (h : Uk c .i16 2 st m st1) (hn : m < 0) : Yf3 (if c then .cnstr else .nstr) st [D.lit (.pointer none)] st1 := by
  refine ⟨by cases c <;> rfl, fun d hd => by simp at hd; subst hd; rfl, ?_⟩
  cases st with
  | none => exact h
  | some s =>
    simp only [Uk] at h ⊢
    cases c
    · simp only [cntP, Bool.false_eq_true, if_false, rdP] at h ⊢
      cases hx : Yd4 .i16 2 s with
      | none => rw [hx] at h; exact h
      | some x =>
        rw [hx] at h
        obtain ⟨rfl, rfl⟩ := h
        simp only [Option.bind_some]
        rw [if_pos hn]
        exact ⟨rfl, rfl⟩
    · simp only [cntP, if_true, rdP] at h ⊢
      cases hx : XA s with
      | none => rw [hx] at h; exact h
      | some x =>
        rw [hx] at h
        obtain ⟨rfl, rfl⟩ := h
        simp only [Option.bind_some]
        rw [if_pos hn]
        exact ⟨rfl, rfl⟩
theorem nstr_rel {c : Bool} {st st1 st2 : Option (List UInt8)} {s1 : List UInt8} {m : Int} (h0 : Uk c .i16 2 st m st1) (hn : ¬ m < 0) (h : Yl1 c .i16 2 st s1 st2) : Yf3 (if c then .cnstr else .nstr) st [D.ptr (.lit (Yb5 s1))] st2 := by
  refine ⟨by cases c <;> rfl, fun d hd => by simp at hd; subst hd; rfl, ?_⟩
  unfold Yl1 at h
  cases st with
  | none => exact h
  | some s =>
    simp only [Uk] at h0
    simp only [] at h ⊢
    cases c
    · simp only [cntP, Bool.false_eq_true, if_false, rdP] at h0 h ⊢
      cases hx : Yd4 .i16 2 s with
      | none => rw [hx] at h; exact h
      | some x =>
        rw [hx] at h h0
        obtain ⟨rfl, rfl⟩ := h0
        simp only [Option.bind_some] at h ⊢
        rw [if_neg hn]
        cases hy : Up x.1 x.2 with
        | none => rw [hy] at h; exact h
        | some y => rw [hy] at h; obtain ⟨rfl, rfl⟩ := h; exact ⟨rfl, rfl⟩
    · simp only [cntP, if_true, rdP] at h0 h ⊢
      cases hx : XA s with
      | none => rw [hx] at h; exact h
      | some x =>
        rw [hx] at h h0
        obtain ⟨rfl, rfl⟩ := h0
        simp only [Option.map_some, Option.bind_some] at h ⊢
        rw [if_neg hn]
        cases hy : Up ((x.1 : Int) - 1) x.2 with
        | none => rw [hy] at h; exact h
        | some y => rw [hy] at h; obtain ⟨rfl, rfl⟩ := h; exact ⟨rfl, rfl⟩

theorem rd_String : RdC Tryz.prog 52 .str := by
  intro w rb sb lo st hr h1 h2 h3 h4
  refine enter Tryz.func52 rfl Tryz.ntmps52 rfl ?_
  refine Yk (Yd (YA rfl rfl (Ym (Yj ?_))))
  refine Yk (Yd ?_)
  refine ws rfl rfl ?_
  refine Yu rfl (by kernel_rfl) rfl ((Yg3 rd_Int16 .i16 2 (fun s => rfl) rfl w rb sb lo st hr h1 h2 h3 h4).mono ?_)
  rintro en w1 ⟨m, st1, rfl, hwr, hc1, hr1, hrel⟩
  refine ⟨_, rfl, ?_⟩
  refine ws rfl rfl ?_
  refine Ym (Yj ?_)
  have hs1 := hc1.size
  have hcnt : Uk false .i16 2 st m st1 := cnt_i hrel
  have hrange : IntKind.i64.wrap m = m := by rw [JT] at hwr; rw [IntKind.wrap_i64]; omega
  refine Yk (Yd ?_)
  refine ws rfl rfl ?_
  refine ws rfl rfl ?_
  refine YB .i64 rfl (by kernel_rfl) (by kernel_rfl) rfl hrange ?_
  refine Yu rfl (by kernel_rfl) rfl ((Yj9 w1 rb sb st1 (m) hr1 h4).mono ?_)
  rintro en w2 ⟨v, s1, st2, rfl, hc2, hr2, hsv, hlim, hspan⟩
  refine ⟨_, rfl, ?_⟩
  refine Yd9 (sb := sb) (bs := s1) rfl hsv bytes_ty str_ty rfl ?_
  have hs2 := hc2.size
  refine ws rfl rfl ?_
  refine Ym (Yj (Yn (Yt rfl rfl ?_)))
  refine ⟨Yb5 s1, [.lit (Yb5 s1)], st2, rfl, hc1.trans hc2, hr2, Vc [_], rfl, fun _ => rfl, ?_⟩
  exact str_rel (c := false) (Ye5 hcnt hspan)
theorem rd_CompactString : RdC Tryz.prog 51 .cstr := by
  intro w rb sb lo st hr h1 h2 h3 h4
  refine enter Tryz.func51 rfl Tryz.ntmps51 rfl ?_
  refine Yk (Yd (YA rfl rfl (Ym (Yj ?_))))
  refine Yk (Yd ?_)
  refine ws rfl rfl ?_
  refine Yu rfl (by kernel_rfl) rfl ((Ym5 w rb sb st hr h4).mono ?_)
  rintro en w1 ⟨u, st1, rfl, hc1, hr1, hrel⟩
  refine ⟨_, rfl, ?_⟩
  have hul := hrel.1
  refine YB .i64 (r := (u : Int)) rfl (by kernel_rfl) (by kernel_rfl) rfl (by rw [IntKind.wrap_i64]; omega) ?_
  refine UF (r := (u : Int) - 1) rfl rfl rfl (by rw [IntKind.wrap_i64]; omega) ?_
  refine ws rfl rfl ?_
  refine Ym (Yj ?_)
  have hs1 := hc1.size
  have hcnt : Uk true .i16 2 st ((u : Int) - 1) st1 := cnt_u hrel
  refine Yk (Yd ?_)
  refine ws rfl rfl ?_
  refine ws rfl rfl ?_
  refine Yu rfl (by kernel_rfl) rfl ((Yj9 w1 rb sb st1 ((u : Int) - 1) hr1 h4).mono ?_)
  rintro en w2 ⟨v, s1, st2, rfl, hc2, hr2, hsv, hlim, hspan⟩
  refine ⟨_, rfl, ?_⟩
  refine Yd9 (sb := sb) (bs := s1) rfl hsv bytes_ty str_ty rfl ?_
  have hs2 := hc2.size
  refine ws rfl rfl ?_
  refine Ym (Yj (Yn (Yt rfl rfl ?_)))
  refine ⟨Yb5 s1, [.lit (Yb5 s1)], st2, rfl, hc1.trans hc2, hr2, Vc [_], rfl, fun _ => rfl, ?_⟩
  exact str_rel (c := true) (Ye5 hcnt hspan)
theorem rd_NullableString : RdC Tryz.prog 61 .nstr := by
  intro w rb sb lo st hr h1 h2 h3 h4
  refine enter Tryz.func61 rfl Tryz.ntmps61 rfl ?_
  refine Yk (Yd (YA rfl rfl (Ym (Yj ?_))))
  refine Yk (Yd ?_)
  refine ws rfl rfl ?_
  refine Yu rfl (by kernel_rfl) rfl ((Yg3 rd_Int16 .i16 2 (fun s => rfl) rfl w rb sb lo st hr h1 h2 h3 h4).mono ?_)
  rintro en w1 ⟨m, st1, rfl, hwr, hc1, hr1, hrel⟩
  refine ⟨_, rfl, ?_⟩
  refine ws rfl rfl ?_
  refine Ym (Yj ?_)
  have hs1 := hc1.size
  have hcnt : Uk false .i16 2 st m st1 := cnt_i hrel
  have hrange : IntKind.i64.wrap m = m := by rw [JT] at hwr; rw [IntKind.wrap_i64]; omega
  refine Yk (Yk (Yd ?_))
  refine ws rfl rfl ?_
  refine ws rfl rfl ?_
  refine Ym (Yj ?_)
  refine VD rfl (fun hc => ?_) (fun hc => ?_)
  · refine Yk (Yd ?_)
    refine ws rfl rfl ?_
    refine Ym (Yj (Yn (Ye (Yt rfl rfl ?_))))
    have hneg : m < 0 := by simpa using hc
    refine ⟨_, [.lit (.pointer none)], st1, rfl, hc1, hr1, Vc [_], rfl, fun _ => rfl, ?_⟩
    exact nul_rel (c := false) hcnt hneg
  refine Yi (Yj ?_)
  have hnn : ¬ m < 0 := by simpa using hc
  refine Yk (Yd ?_)
  refine ws rfl rfl ?_
  refine ws rfl rfl ?_
  refine YB .i64 rfl (by kernel_rfl) (by kernel_rfl) rfl hrange ?_
  refine Yu rfl (by kernel_rfl) rfl ((Yj9 w1 rb sb st1 (m) hr1 h4).mono ?_)
  rintro en w2 ⟨v, s1, st2, rfl, hc2, hr2, hsv, hlim, hspan⟩
  refine ⟨_, rfl, ?_⟩
  refine Yd9 (sb := sb) (bs := s1) rfl hsv bytes_ty str_ty rfl ?_
  have hs2 := hc2.size
  refine Xu zv_str rfl rfl (fun w3 hb3 hg3 hs3 => ?_)
  refine YJ rfl rfl to_str rfl hb3 rfl (fun w4 hb4 hg4 _ => ?_)
  refine Ym (Yj (Yk (Yd ?_)))
  refine ws rfl rfl ?_
  refine Ym (Yj (Yn (Yt rfl rfl ?_)))
  have c3 : Chg (fun _ => False) w2 w3 := Chg.grown0 hg3
  have c4 : Chg (· = w2.heap.size) w3 w4 := Chg.grown hg4
  have hrb := Rdr.box' hr
  have c34 : Chg (· = rb) w2 w4 := new_only c3 c4
  have hsz4 := c4.size
  refine ⟨_, [.ptr (.lit (Yb5 s1))], st2, rfl, (hc1.trans hc2).trans c34, (hr2.chg c3 id id).chg c4 (by omega) (by omega), ?_, rfl, fun _ => rfl, ?_⟩
  · refine ⟨[_], [], rfl, ⟨w2.heap.size, _, rfl, ⟨.inr (by omega), by omega⟩, hb4.cells, rfl⟩, rfl⟩
  · exact nstr_rel (c := false) hcnt hnn (Ye5 hcnt hspan)
theorem rd_CompactNullableString : RdC Tryz.prog 59 .cnstr := by
  intro w rb sb lo st hr h1 h2 h3 h4
  refine enter Tryz.func59 rfl Tryz.ntmps59 rfl ?_
  refine Yk (Yd (YA rfl rfl (Ym (Yj ?_))))
  refine Yk (Yd ?_)
  refine ws rfl rfl ?_
  refine Yu rfl (by kernel_rfl) rfl ((Ym5 w rb sb st hr h4).mono ?_)
  rintro en w1 ⟨u, st1, rfl, hc1, hr1, hrel⟩
  refine ⟨_, rfl, ?_⟩
  have hul := hrel.1
  refine YB .i64 (r := (u : Int)) rfl (by kernel_rfl) (by kernel_rfl) rfl (by rw [IntKind.wrap_i64]; omega) ?_
  refine UF (r := (u : Int) - 1) rfl rfl rfl (by rw [IntKind.wrap_i64]; omega) ?_
  refine ws rfl rfl ?_
  refine Ym (Yj ?_)
  have hs1 := hc1.size
  have hcnt : Uk true .i16 2 st ((u : Int) - 1) st1 := cnt_u hrel
  refine Yk (Yk (Yd ?_))
  refine ws rfl rfl ?_
  refine ws rfl rfl ?_
  refine Ym (Yj ?_)
  refine VD rfl (fun hc => ?_) (fun hc => ?_)
  · refine Yk (Yd ?_)
    refine ws rfl rfl ?_
    refine Ym (Yj (Yn (Ye (Yt rfl rfl ?_))))
    have hneg : (u : Int) - 1 < 0 := by simpa using hc
    refine ⟨_, [.lit (.pointer none)], st1, rfl, hc1, hr1, Vc [_], rfl, fun _ => rfl, ?_⟩
    exact nul_rel (c := true) hcnt hneg
  refine Yi (Yj ?_)
  have hnn : ¬ (u : Int) - 1 < 0 := by simpa using hc
  refine Yk (Yd ?_)
  refine ws rfl rfl ?_
  refine ws rfl rfl ?_
  refine Yu rfl (by kernel_rfl) rfl ((Yj9 w1 rb sb st1 ((u : Int) - 1) hr1 h4).mono ?_)
  rintro en w2 ⟨v, s1, st2, rfl, hc2, hr2, hsv, hlim, hspan⟩
  refine ⟨_, rfl, ?_⟩
  refine Yd9 (sb := sb) (bs := s1) rfl hsv bytes_ty str_ty rfl ?_
  have hs2 := hc2.size
  refine Xu zv_str rfl rfl (fun w3 hb3 hg3 hs3 => ?_)
  refine YJ rfl rfl to_str rfl hb3 rfl (fun w4 hb4 hg4 _ => ?_)
  refine Ym (Yj (Yk (Yd ?_)))
  refine ws rfl rfl ?_
  refine Ym (Yj (Yn (Yt rfl rfl ?_)))
  have c3 : Chg (fun _ => False) w2 w3 := Chg.grown0 hg3
  have c4 : Chg (· = w2.heap.size) w3 w4 := Chg.grown hg4
  have hrb := Rdr.box' hr
  have c34 : Chg (· = rb) w2 w4 := new_only c3 c4
  have hsz4 := c4.size
  refine ⟨_, [.ptr (.lit (Yb5 s1))], st2, rfl, (hc1.trans hc2).trans c34, (hr2.chg c3 id id).chg c4 (by omega) (by omega), ?_, rfl, fun _ => rfl, ?_⟩
  · refine ⟨[_], [], rfl, ⟨w2.heap.size, _, rfl, ⟨.inr (by omega), by omega⟩, hb4.cells, rfl⟩, rfl⟩
  · exact nstr_rel (c := true) hcnt hnn (Ye5 hcnt hspan)
end Go.Proofs.YtmihblfjhoblmaaGreatDoor.Rdk

/- The package's reader at the seat: octets (text printed by tools/octs.py). -/
namespace Go.Proofs.YtmihblfjhoblmaaGreatDoor.Rdk
open Go Go.RowKit

set_option maxRecDepth 100000
end Go.Proofs.YtmihblfjhoblmaaGreatDoor.Rdk

/- What is read of what is written: tags, lists. No program in sight. -/
namespace Go.Proofs.YtmihblfjhoblmaaGreatDoor
open Go Go.RowKit

def Ve (u : List (Nat × List UInt8)) : Prop := u.Pairwise fun a b => a.1 < b.1
theorem JK (k : Nat) (v : List UInt8) : ∀ (u : List (Nat × List UInt8)), Ve u → Ve (YS k v u) ∧ ∀ n, (∀ kv ∈ u, n < kv.1) → n < k → ∀ kv ∈ YS k v u, n < kv.1
  | [], _ => ⟨by simp [YS, Ve], fun n _ hk kv h => by simp [YS] at h; subst h; exact hk⟩
  | x :: u, h => by
    have hx := List.pairwise_cons.1 h
    obtain ⟨i1, i2⟩ := JK k v u hx.2
    simp only [YS]
    split
    · rename_i hlt
      refine ⟨List.pairwise_cons.2 ⟨fun y hy => i2 x.1 (fun z hz => hx.1 z hz) hlt y hy, i1⟩, fun n hn hk kv hkv => ?_⟩
      rcases List.mem_cons.1 hkv with rfl | hm
      · exact hn _ (by simp)
      · exact i2 n (fun z hz => hn z (by simp [hz])) hk kv hm
    · split
      · exact ⟨h, fun n hn _ => hn⟩
      · rename_i h1 h2
        refine ⟨List.pairwise_cons.2 ⟨fun y hy => ?_, h⟩, fun n hn hk kv hkv => ?_⟩
        · rcases List.mem_cons.1 hy with rfl | hm
          · show k < _; omega
          · have := hx.1 y hm; show k < _; omega
        · rcases List.mem_cons.1 hkv with rfl | hm
          · exact hk
          · exact hn kv hm
theorem Jg (fs : List Fld) (u : List (Nat × List UInt8)) : Ve (YZ fs u) := by
  unfold YZ
  have : ∀ (l : List (Nat × List UInt8)) (out : List (Nat × List UInt8)), Ve out → Ve (l.foldl (fun out kv => if kv.1 < YH fs then out else YS kv.1 kv.2 out) out) := by
    intro l
    induction l with
    | nil => intro out h; exact h
    | cons x l ih =>
      intro out h
      simp only [List.foldl_cons]
      split
      · exact ih out h
      · exact ih _ (JK x.1 x.2 out h).1
  exact this _ [] (by simp [Ve])
theorem Yl9 (k : Nat) (v : List UInt8) : ∀ (u : List (Nat × List UInt8)), (∀ kv ∈ u, kv.1 < k) → Vn k v u = u ++ [(k, v)]
  | [], _ => rfl
  | x :: u, h => by
    have := h x (by simp)
    simp only [Vn, if_pos this, Yl9 k v u (fun y hy => h y (by simp [hy])), List.cons_append]
theorem tagsR_ok : ∀ (u acc : List (Nat × List UInt8)) (s : List UInt8), Ve (acc ++ u) → (∀ kv ∈ u, kv.1 < 4294967296 ∧ kv.2.length ≤ XQ) → tagsR u.length acc ((u.flatMap fun kv => Jj kv.1 kv.2) ++ s) = some (acc ++ u, s)
  | [], acc, s, _, _ => by simp [tagsR]
  | x :: u, acc, s, hr, hb => by
    have hx := hb x (by simp)
    have hM : XQ = 32767 := rfl
    have hlast : ∀ kv ∈ acc, kv.1 < x.1 := by
      intro kv hkv
      exact (List.pairwise_append.1 hr).2.2 kv hkv x (by simp)
    simp only [List.length_cons, tagsR, List.flatMap_cons, Jj, List.append_assoc]
    rw [Xy _ _ hx.1]
    simp only [Option.bind_some]
    rw [Xy _ _ (by omega)]
    simp only [Option.bind_some]
    rw [JL _ _ _ rfl]
    simp only [Option.bind_some]
    rw [Yl9 _ _ _ hlast]
    have ih := tagsR_ok u (acc ++ [x]) s (by simpa [List.append_assoc] using hr) (fun kv h => hb kv (by simp [h]))
    simp only [Jj, List.append_assoc] at ih
    rw [ih]
    simp
theorem tagsP_ok (u : List (Nat × List UInt8)) (s : List UInt8) (hr : Ve u) (hb : ∀ kv ∈ u, kv.1 < 4294967296 ∧ kv.2.length ≤ XQ) (hl : u.length ≤ XQ) : tagsP (uvar u.length ++ (u.flatMap fun kv => Jj kv.1 kv.2) ++ s) = some (u, s) := by
  have hM : XQ = 32767 := rfl
  simp only [tagsP, List.append_assoc]
  rw [Xy _ _ (by omega)]
  simp only [Option.bind_some]
  have := tagsR_ok u [] s (by simpa using hr) hb
  simpa using this
theorem lenP_ok (flex null : Bool) (n : Nat) (s : List UInt8) (hn : n ≤ XQ) (hs : null = true ∨ n ≤ s.length) : lenP flex (YF flex null n 4 ++ s) = some (if null then -1 else (n : Int), s) := by
  have hM : XQ = 32767 := rfl
  cases null with
  | true =>
    cases flex
    · simp only [lenP, YF, Bool.false_eq_true, if_false, if_true]
      rw [Vs .i32 4 32 rfl rfl]
      simp [IntKind.wrap_i32]
    · have : XA (0 :: s) = some (0, s) := by have := Xy 0 s (by omega); rw [uvar0] at this; exact this
      simp [lenP, YF, this, IntKind.wrap_i32]
  | false =>
    have hs' : n ≤ s.length := by rcases hs with h | h; cases h; exact h
    cases flex
    · simp only [lenP, YF, Bool.false_eq_true, if_false]
      rw [Vs .i32 4 32 rfl rfl]
      have hw : IntKind.i32.wrap (n : Int) = n := by rw [IntKind.wrap_i32]; omega
      simp only [Option.bind_some, hw]
      rw [if_neg (by omega)]
    · simp only [lenP, YF, Bool.false_eq_true, if_false, if_true]
      rw [Xy _ _ (by omega)]
      have hw : IntKind.i32.wrap (IntKind.i32.wrap ((n + 1 : Nat) : Int) - 1) = n := by simp only [IntKind.wrap_i32]; omega
      simp only [Option.map_some, Option.bind_some, hw]
      rw [if_neg (by omega)]
/-- Elements, one behind the other. -/
theorem rdRow_ok {α : Type} (body : List Ra) (dfl : List D) (b : α → List UInt8) (Q : α → List D → Prop) : ∀ (l : List α), (∀ x ∈ l, ∀ s, ∃ nd, rdAs body dfl (b x ++ s) = some (nd, s) ∧ Q x nd) → ∀ s, ∃ dss, VJ body dfl l.length (l.flatMap b ++ s) = some (dss, s) ∧ dss.length = l.length ∧ ∀ i (h : i < l.length), ∃ nd, dss[i]? = some nd ∧ Q l[i] nd
  | [], _, s => ⟨[], by simp [VJ], rfl, fun i h => by cases h⟩
  | x :: l, h, s => by
    obtain ⟨nd, h1, h2⟩ := h x (by simp) (l.flatMap b ++ s)
    obtain ⟨dss, h3, h4, h5⟩ := rdRow_ok body dfl b Q l (fun y hy => h y (by simp [hy])) s
    refine ⟨nd :: dss, ?_, by simp [h4], fun i hi => ?_⟩
    · simp only [List.length_cons, List.flatMap_cons, List.append_assoc, VJ]
      rw [h1]
      simp only [Option.bind_some]
      rw [h3]; rfl
    · cases i with
      | zero => exact ⟨nd, rfl, h2⟩
      | succ i => obtain ⟨nd', h6, h7⟩ := h5 i (by simpa using hi); exact ⟨nd', by simpa using h6, by simpa using h7⟩
theorem imp_list : ∀ {a b : List D}, a.length = b.length → (∀ (i : Nat) (x y : D), a[i]? = some x → b[i]? = some y → Imp [x] [y]) → Imp a b
  | [], [], _, _ => Imp.refl _
  | [], y :: b, h, _ => by simp at h
  | x :: a, [], h, _ => by simp at h
  | x :: a, y :: b, h, k => by
    have h1 := k 0 x y rfl rfl
    have h2 := imp_list (a := a) (b := b) (by simpa using h) (fun i u v hu hv => k (i + 1) u v (by simpa using hu) (by simpa using hv))
    exact Imp.app h1 h2
theorem imp_sl {n : Bool} {a b : List D} (hl : a.length = b.length) (h : Imp a b) : Imp [.sl n a] [.sl n b] := by
  refine Imp.one (fun ok w cs hr => ?_)
  simp only [Rep] at hr ⊢
  obtain ⟨p, c, e, hle, h1, h2⟩ := hr
  refine ⟨p, c, by rw [← hl]; exact e, by rw [← hl]; exact hle, fun hn => ?_, fun hn => ?_⟩
  · obtain ⟨k1, k2, k3⟩ := h1 hn
    subst k2
    refine ⟨k1, ?_, k3⟩
    cases b with
    | nil => rfl
    | cons x b => simp at hl
  · obtain ⟨b', off, cs', k1, k2, k3, k4⟩ := h2 hn
    exact ⟨b', off, cs', k1, k2, k3, h ok w cs' k4⟩
theorem imp_sq {a b : List D} (hl : a.length = b.length) (h : Imp a b) : Imp [.sq a] [.sq b] := by
  refine Imp.one (fun ok w cs hr => ?_)
  simp only [Rep] at hr ⊢
  obtain ⟨p, c, e, hle, h1⟩ := hr
  refine ⟨p, c, by rw [← hl]; exact e, by rw [← hl]; exact hle, ?_⟩
  rcases h1 with k | ⟨b', off, cs', k1, k2, k3, k4⟩
  · left
    subst k
    cases b with
    | nil => rfl
    | cons x b => simp at hl
  · exact .inr ⟨b', off, cs', k1, k2, k3, h ok w cs' k4⟩
def rpN : Rp → Nat
  | .bool => 0 | .i8 => 1 | .i16 => 2 | .i32 => 3 | .i64 => 4 | .u16 => 5 | .uuid => 6 | .str => 7 | .cstr => 8 | .nstr => 9 | .cnstr => 10 | .bytes => 11 | .cbytes => 12 | .nbytes => 13 | .cnbytes => 14
def rpEq (a b : Rp) : Bool := Nat.beq (rpN a) (rpN b)
theorem rpEq_out {a b : Rp} (h : rpEq a b = true) : a = b := by
  have := Ys h
  cases a <;> cases b <;> first | rfl | cases this
def ne1 (ver : Int) (fs : List Fld) : Bool := fs.any fun f => f.has ver && decide (f.tag < 0) && !decide (f.kind = 10)
def endR (flex : Bool) (off : Nat) (ra : List Ra) : Option (List Ra) := if flex then (match ra with
  | .tags o :: r => bif Nat.beq o off then some r else none
  | _ => none) else some ra
def isEnd (flex : Bool) (off : Nat) (ra : List Ra) : Bool := match endR flex off ra with
  | some [] => true
  | _ => false
def endsO (flex : Bool) (off : Nat) : Option (List Ra) → Bool
  | some r => isEnd flex off r
  | none => false
def isPrim (p : Rp) : List Ra → Bool
  | [.prim q 0] => rpEq q p
  | _ => false
mutual
/-- Do these acts read the field? -/
def mF (ver : Int) (tg flex : Bool) (off : Nat) : Fld → List Ra → Option (List Ra)
  | .mk kind _ _ nul _ _ of sub, ra =>
    if kind = 11 then (match ra with
      | .row c nb o st dfl body :: r =>
        bif (c == flex) && (nb == decide (0 ≤ nul ∧ nul ≤ ver)) && Nat.beq o off && (st == decide (of = 10)) && decide (shDs (Xi dfl) = shE tg of sub) &&
          (if of = 10 then (flex || ne1 ver sub) && endsO flex (shFs tg sub).length (mFs ver tg flex 0 sub body) else isPrim (rpV of (-1) ver flex) body) then some r else none
      | _ => none)
    else if kind = 10 then (if 0 ≤ nul then none else match mFs ver tg flex off sub ra with | some r => endR flex (off + (shFs tg sub).length) r | none => none)
    else (match ra with
      | .prim p o :: r => bif rpEq p (rpV kind nul ver flex) && Nat.beq o off then some r else none
      | _ => none)
def mFs (ver : Int) (tg flex : Bool) (off : Nat) : List Fld → List Ra → Option (List Ra)
  | [], ra => some ra
  | f :: fs, ra => match (if f.has ver then mF ver tg flex off f ra else some ra) with
    | some r => mFs ver tg flex (off + (shF tg f).length) fs r
    | none => none
end
def mP (ver : Int) (tg flex : Bool) (off : Nat) (fs : List Fld) (ra : List Ra) : Option (List Ra) := match mFs ver tg flex off fs ra with
  | some r => endR flex (off + (shFs tg fs).length) r
  | none => none
theorem unit_split : ∀ {ds : List D} {x y : List Ck}, Yd5 ds → shDs ds = x ++ y → ∃ a b, ds = a ++ b ∧ shDs a = x ∧ shDs b = y ∧ Yd5 a ∧ Yd5 b := by
  intro ds x y hu h
  have hl := unit_len hu
  have hlen : x.length ≤ ds.length := by rw [← hl, h]; simp
  refine ⟨ds.take x.length, ds.drop x.length, (List.take_append_drop _ _).symm, ?_, ?_, fun d hd => hu d (List.mem_of_mem_take hd), fun d hd => hu d (List.mem_of_mem_drop hd)⟩
  · have h1 : shDs ds = shDs (ds.take x.length) ++ shDs (ds.drop x.length) := by rw [← shDs_append, List.take_append_drop]
    have h2 : (shDs (ds.take x.length)).length = x.length := by rw [unit_len (fun d hd => hu d (List.mem_of_mem_take hd))]; simp; omega
    rw [h] at h1
    exact (List.append_inj h1 h2.symm).1.symm
  · have h1 : shDs ds = shDs (ds.take x.length) ++ shDs (ds.drop x.length) := by rw [← shDs_append, List.take_append_drop]
    have h2 : (shDs (ds.take x.length)).length = x.length := by rw [unit_len (fun d hd => hu d (List.mem_of_mem_take hd))]; simp; omega
    rw [h] at h1
    exact (List.append_inj h1 h2.symm).2.symm
theorem unit_app {a b : List D} (ha : Yd5 a) (hb : Yd5 b) : Yd5 (a ++ b) := fun d hd => (List.mem_append.1 hd).elim (ha d) (hb d)
theorem uvar_pos1 (n : Nat) : 1 ≤ (uvar n).length := by rw [uvar]; split <;> simp
theorem Jk (flex null : Bool) (n k : Nat) (hk : 0 < k) : 1 ≤ (YF flex null n k).length := by
  unfold YF
  cases flex <;> cases null <;> simp [be_size] <;> first | omega | skip
  exact uvar_pos1 _
theorem wVal_pos (kind : Int) (flex null : Bool) (p : Tree → List UInt8) (t : Tree) (h : kind ≠ 10) : 1 ≤ (Xr kind flex null p t).length := by
  unfold Xr
  split
  · simp
  split
  · rw [VF]; omega
  split
  · have := Jk flex null (if null then [] else whole t.s).length 2 (by omega)
    rw [List.length_append]; omega
  split
  · have := Jk flex null (if null then [] else whole t.s).length 4 (by omega)
    rw [List.length_append]; omega
  rw [be_size]
  unfold width
  repeat' split
  all_goals omega
theorem wField_pos (ver : Int) (flex : Bool) (f : Fld) (t : Tree) (h : f.kind ≠ 10) : 1 ≤ (Xk ver flex f t).length := by
  cases f with
  | mk kind fr upto nul tag df of sub =>
    have hk : kind ≠ 10 := h
    rw [VL ver flex kind fr upto nul tag df of sub t _ rfl]
    split
    · rw [List.length_append]
      have := Jk flex (t.nul && decide (0 ≤ nul) && decide (nul ≤ ver)) (if (t.nul && decide (0 ≤ nul) && decide (nul ≤ ver)) then [] else Xo t.l).length 4 (by omega)
      omega
    · rw [if_neg (fun e => hk e.1)]
      exact wVal_pos _ _ _ _ _ hk
theorem wFs_pos (ver : Int) (flex : Bool) : ∀ (fs : List Fld) (i : Nat) (t : Tree), ne1 ver fs = true → 1 ≤ (wFs ver flex fs i t).length
  | [], _, _, h => by simp [ne1] at h
  | f :: fs, i, t, h => by
    simp only [ne1, List.any_cons, Bool.or_eq_true] at h
    simp only [wFs, List.length_append]
    rcases h with h | h
    · simp only [Bool.and_eq_true, decide_eq_true_eq, Bool.not_eq_true', decide_eq_false_iff_not] at h
      rw [if_pos ⟨h.1.2, h.1.1⟩]
      have := wField_pos ver flex f (att t i) h.2
      omega
    · have := wFs_pos ver flex fs (i + 1) t h
      omega
theorem wPart_pos (ver : Int) (flex : Bool) (fs : List Fld) (t : Tree) (h : (flex || ne1 ver fs) = true) : 1 ≤ (YM ver flex fs t).length := by
  unfold YM asm
  cases flex with
  | true =>
    simp only [if_true, List.length_append]
    have := uvar_pos1 (XR ver true fs t).length
    omega
  | false =>
    simp only [Bool.false_eq_true, if_false]
    exact wFs_pos ver false fs 0 t (by simpa using h)
theorem Yf9 {α : Type} (b : α → List UInt8) : ∀ (l : List α), (∀ x ∈ l, 1 ≤ (b x).length) → l.length ≤ (l.flatMap b).length
  | [], _ => Nat.le_refl _
  | x :: l, h => by
    have h1 := h x (by simp)
    have h2 := Yf9 b l (fun y hy => h y (by simp [hy]))
    simp only [List.flatMap_cons, List.length_append, List.length_cons]; omega
end Go.Proofs.YtmihblfjhoblmaaGreatDoor
