/- A part of the proof of FnFrameEndQuorumEpochRequestUptoCardSaid: what its texts prove stands at the head of each. Conditions: those that each theorem names. -/
import Derived.Test.YtgjplodgdgaakaaGreatDoorPartB
import Derived.Deep.LoopGhost
import Derived.Test.YtgjplodgdgaakaaGreatDoorPartA
set_option linter.all false
/- That the reading of code that VV tells the truth: what is YI at a point. Over any program. -/
namespace Go.Proofs.YtgjplodgdgaakaaGreatDoor
open Go Go.RowKit

/-- The longest text that is read. -/
def srcLim : Nat := 140737488355328
/-- The reader: well, with so many octets before it; or not well. -/
def Rdr (w : World) (rb sb : Nat) : Option (List UInt8) → Prop
  | none => ∃ e, Box w rb [.slice none 0 0, .bool true] e
  | some s => ∃ v e, Box w rb [v, .bool false] e ∧ s.length ≤ srcLim ∧ ((v = .slice none 0 0 ∧ s = []) ∨ ∃ o c, v = .slice (some ⟨sb, o, none⟩) s.length c ∧ s.length ≤ c ∧ YN w sb o (bv s))
/-- Blocks to which what was read may lead. -/
def Dk (sb lo : Nat) (w : World) : Nat → Prop := fun r => (r = sb ∨ lo ≤ r) ∧ r < w.heap.size
/-- Only the blocks of S have turned. -/
structure Chg (S : Nat → Prop) (w w' : World) : Prop where
  os : w'.os = w.os
  tape : w'.tape = w.tape
  output : w'.output = w.output
  size : w.heap.size ≤ w'.heap.size
  block : ∀ k, k < w.heap.size → ¬ S k → w'.heap[k]? = w.heap[k]?
theorem Chg.refl (S : Nat → Prop) (w : World) : Chg S w w := ⟨rfl, rfl, rfl, Nat.le_refl _, fun _ _ _ => rfl⟩
theorem Chg.trans {S : Nat → Prop} {a b c : World} (h : Chg S a b) (k : Chg S b c) : Chg S a c :=
  ⟨k.os.trans h.os, k.tape.trans h.tape, k.output.trans h.output, Nat.le_trans h.size k.size, fun j hj hn => (k.block j (Nat.lt_of_lt_of_le hj h.size) hn).trans (h.block j hj hn)⟩
theorem Chg.wide {S T : Nat → Prop} {w w' : World} (h : Chg S w w') (hs : ∀ k, S k → T k) : Chg T w w' := ⟨h.os, h.tape, h.output, h.size, fun j hj hn => h.block j hj (fun e => hn (hs j e))⟩
theorem Chg.grown {w w' : World} {b : Nat} (h : w.grownBy w' (some b)) : Chg (· = b) w w' := ⟨h.os, h.tape, h.output, h.size, fun k hk hn => h.block k hk (fun e => hn (by simpa using e))⟩
theorem Chg.grown0 {w w' : World} {S : Nat → Prop} (h : w.grownBy w' none) : Chg S w w' := ⟨h.os, h.tape, h.output, h.size, fun k hk _ => h.block k hk (by simp)⟩
theorem Dk.up {sb lo : Nat} {S : Nat → Prop} {w w' : World} {ds : List D} {cs : List Value} (hr : YX (Dk sb lo w) w ds cs) (h : Chg S w w') (hs : ∀ k, S k → k < lo ∧ k ≠ sb) : YX (Dk sb lo w') w' ds cs :=
  hr.up (fun r hr => ⟨hr.1, Nat.lt_of_lt_of_le hr.2 h.size⟩) (fun r hr => h.block r hr.2 (fun e => by
    obtain ⟨h1, h2⟩ := hs r e
    rcases hr.1 with h | h
    · exact h2 h
    · omega))
theorem Box.chg {S : Nat → Prop} {w w' : World} {b : Nat} {cs : List Value} {e : TypeId} (h : Box w b cs e) (hc : Chg S w w') (hb : ¬ S b) : Box w' b cs e := (hc.block b h.lt hb).trans h
theorem YN.chg {S : Nat → Prop} {w w' : World} {b off : Nat} {cs : List Value} (h : YN w b off cs) (hc : Chg S w w') (hb : ¬ S b) : YN w' b off cs := h.of_block (hc.block b h.lt hb)
theorem Rdr.chg {S : Nat → Prop} {w w' : World} {rb sb : Nat} {st : Option (List UInt8)} (h : Rdr w rb sb st) (hc : Chg S w w') (hr : ¬ S rb) (hs : ¬ S sb) : Rdr w' rb sb st := by
  cases st with
  | none => obtain ⟨e, h⟩ := h; exact ⟨e, h.chg hc hr⟩
  | some s =>
    obtain ⟨v, e, hb, hl, hv⟩ := h
    refine ⟨v, e, hb.chg hc hr, hl, ?_⟩
    rcases hv with hv | ⟨o, c, hv, hle, hcs⟩
    · exact .inl hv
    · exact .inr ⟨o, c, hv, hle, hcs.chg hc hs⟩
def Yd9 (p : Rp) (st : Option (List UInt8)) (nd : List D) (st' : Option (List UInt8)) : Prop :=
  shDs nd = shR p ∧ (∀ d ∈ nd, d.width = 1) ∧ match st with
    | none => st' = none
    | some s => match rdP p s with
      | some x => st' = some x.2 ∧ nd = x.1
      | none => st' = none
def Uq (c : Bool) (st : Option (List UInt8)) (l : Int) (st' : Option (List UInt8)) : Prop :=
  match st with
    | none => st' = none
    | some s => match lenP c s with
      | some x => st' = some x.2 ∧ l = x.1
      | none => st' = none
def Yk2 (st : Option (List UInt8)) (u : List (Nat × List UInt8)) (st' : Option (List UInt8)) : Prop :=
  match st with
    | none => st' = none
    | some s => match tagsP s with
      | some x => st' = some x.2 ∧ u = x.1
      | none => st' = none
/-- What the end says. -/
def endV (ev : Value) (st : Option (List UInt8)) : Value := if st.isSome then .nilIface else ev
structure KrOk (P : Program) (K : Kr) (g : Nat) (ev : Value) : Prop where
  rd : ∀ f p, rpOf K.fns f = some p → Ut P f = true → ∀ (w : World) (rb sb lo : Nat) (st : Option (List UInt8)), Rdr w rb sb st → rb < lo → sb < lo → lo ≤ w.heap.size → rb ≠ sb →
    Calls P f #[.pointer (some ⟨rb, 0, none⟩)] w fun e w' => ∃ v nd st', e = .returned v ∧ Chg (· = rb) w w' ∧ Rdr w' rb sb st' ∧ YX (Dk sb lo w') w' nd v.cells.toList ∧ (v.cells.toList.all fun v => v.oneCell') = true ∧ ((shR p).length = 1 → v.cells = #[v]) ∧ Yd9 p st nd st'
  len : ∀ f c, lcOf K.lens f = some c → Ut P f = true → ∀ (w : World) (rb sb lo : Nat) (st : Option (List UInt8)), Rdr w rb sb st → rb < lo → sb < lo → lo ≤ w.heap.size → rb ≠ sb →
    Calls P f #[.pointer (some ⟨rb, 0, none⟩)] w fun e w' => ∃ l st', e = .returned (.int .i32 l) ∧ Chg (· = rb) w w' ∧ Rdr w' rb sb st' ∧ Uq c st l st'
  tags : Ut P K.tags = true → ∀ (w : World) (rb sb lo : Nat) (st : Option (List UInt8)), Rdr w rb sb st → rb < lo → sb < lo → lo ≤ w.heap.size → rb ≠ sb →
    Calls P K.tags #[.pointer (some ⟨rb, 0, none⟩)] w fun e w' => ∃ m u st', e = .returned (.agg #[m]) ∧ Chg (· = rb) w w' ∧ Rdr w' rb sb st' ∧ m.oneCell' = true ∧ Rep (Dk sb lo w') w' (Uz u) [m] ∧ Yk2 st u st'
  ok : Ut P K.ok = true → ∀ (w : World) (rb sb : Nat) (st : Option (List UInt8)), Rdr w rb sb st → Calls P K.ok #[.pointer (some ⟨rb, 0, none⟩)] w fun e w' => e = .returned (.bool st.isSome) ∧ w' = w
  comp : Ut P K.comp = true → ∀ (w : World) (rb sb : Nat) (st : Option (List UInt8)), Rdr w rb sb st → w.cell? ⟨g, 0, none⟩ = some ev → Calls P K.comp #[.pointer (some ⟨rb, 0, none⟩)] w fun e w' => e = .returned (endV ev st) ∧ w' = w

/-- The values of words. -/
def VW (rb : Nat) (Ad : List (Nat × Nat)) (R : List Value) (I : List Int) : Wd → Option Value
  | .val v => some v
  | .rdr => some (.pointer (some ⟨rb, 0, none⟩))
  | .at_ k o => (Ad[k]?).map fun p => .pointer (some ⟨p.1, p.2 + o, none⟩)
  | .res n => R[n]?
  | .idx m => (I[m]?).map fun i => .int .i32 i
structure KnW (N rb : Nat) (a : Act) (A : WA) (Ad : List (Nat × Nat)) (R : List Value) (I : List Int) : Prop where
  size : a.tmps.size = N
  defers : a.defers = []
  at_ : ∀ t s, lkW A t = some s → VW rb Ad R I s = some (gt a t)
theorem lkW_mem {A : WA} {t : Nat} {s : Wd} (h : lkW A t = some s) : (t, s) ∈ A := by
  induction A with
  | nil => cases h
  | cons p A ih =>
    simp only [lkW] at h
    cases hb : Nat.beq p.1 t with
    | true => rw [hb] at h; simp at h; have := Ys hb; subst this; subst h; simp
    | false => rw [hb] at h; exact List.mem_cons_of_mem _ (ih h)
theorem wEq_out {a b : Wd} (h : wEq a b = true) : a = b := by
  unfold wEq at h
  split at h
  · rw [vEq_out h]
  · rfl
  · rw [Bool.and_eq_true] at h; rw [Ys h.1, Ys h.2]
  · rw [Ys h]
  · rw [Ys h]
  · cases h
theorem Ye3 (A : WA) (t u : Nat) : lkW (Vd A t) u = if u = t then none else lkW A u := by
  induction A with
  | nil => simp [Vd, lkW]
  | cons p A ih =>
    simp only [Vd, List.filter_cons]
    simp only [Vd] at ih
    cases hb : Nat.beq p.1 t with
    | true =>
      have hp := Ys hb
      simp only [Bool.not_true, Bool.false_eq_true, if_false]
      rw [ih]
      by_cases hu : u = t
      · simp [hu]
      · rw [if_neg hu, if_neg hu]
        have : Nat.beq p.1 u = false := by
          cases hx : Nat.beq p.1 u with
          | false => rfl
          | true => exact absurd ((Ys hx).symm.trans hp) hu
        simp only [lkW, this, cond_false]
    | false =>
      simp only [Bool.not_false, if_true, lkW]
      rw [ih]
      by_cases hu : u = t
      · rw [if_pos hu, if_pos hu, hu, hb]; rfl
      · rw [if_neg hu, if_neg hu]
def Yl3 (A A' : WA) : Prop := ∀ t s, lkW A' t = some s → lkW A t = some s
theorem XA (A : WA) (t : Nat) : Yl3 A (Vd A t) := by
  intro u s h
  rw [Ye3] at h
  split at h
  · cases h
  · exact h
theorem lessW_kept (A : WA) : Yl3 A (keptW A) := by
  intro t s h
  have := lkW_mem h
  simp only [keptW, List.mem_filter] at this
  have he := this.2
  split at he
  · rename_i s' hs
    rw [hs, wEq_out he]
  · cases he
theorem lessW_within {A A' : WA} (h : withinW A A' = true) : Yl3 A' A := by
  intro t s e
  have := List.all_eq_true.1 h _ (lkW_mem e)
  split at this
  · rename_i s' hs
    rw [hs, wEq_out this]
  · cases this
theorem XD {A B C : WA} (h : Yl3 A B) (k : Yl3 B C) : Yl3 A C := fun t s e => h t s (k t s e)
section
variable {N rb : Nat} {a : Act} {A : WA} {Ad : List (Nat × Nat)} {R : List Value} {I : List Int}
theorem KnW.weak {A' : WA} (h : KnW N rb a A Ad R I) (hs : Yl3 A A') : KnW N rb a A' Ad R I := ⟨h.size, h.defers, fun t s e => h.at_ t s (hs t s e)⟩
theorem KnW.eval (h : KnW N rb a A Ad R I) {x : Operand} {s : Wd} (e : evW A x = some s) : VW rb Ad R I s = some (a.eval x) := by
  cases x with
  | tmp t => exact h.at_ t s e
  | const v => simp only [evW, Option.some.injEq] at e; subst e; rfl
  | global g => cases e
  | func f => cases e
theorem KnW.putOff (h : KnW N rb a A Ad R I) {t : Nat} (v : Value) : KnW N rb (a.put (some t) v) (Vd A t) Ad R I := by
  refine ⟨(Xd a _ v).trans h.size, (YP a _ v).trans h.defers, fun u s e => ?_⟩
  rw [Ye3] at e
  split at e
  · cases e
  · rename_i hne
    rw [Yy a t u v hne]; exact h.at_ u s e
theorem KnW.put (h : KnW N rb a A Ad R I) {t : Nat} {s : Wd} {v : Value} (hv : VW rb Ad R I s = some v) (ht : Nat.blt t N = true) : KnW N rb (a.put (some t) v) ((t, s) :: A) Ad R I := by
  have ht' : t < a.tmps.size := by rw [h.size]; exact Nat.le_of_ble_eq_true ht
  refine ⟨(Xd a _ v).trans h.size, (YP a _ v).trans h.defers, fun u s' e => ?_⟩
  simp only [lkW] at e
  cases hb : Nat.beq t u with
  | true =>
    rw [hb] at e; simp at e; subst e
    rw [← Ys hb, Yw a t v ht']; exact hv
  | false =>
    rw [hb] at e
    have hne : u ≠ t := by intro e'; subst e'; rw [Nat.beq_refl] at hb; cases hb
    rw [Yy a t u v hne]; exact h.at_ u s' e
theorem KnW.putFree (h : KnW N rb a A Ad R I) {t : Nat} (v : Value) (hf : lkW A t = none) : KnW N rb (a.put (some t) v) A Ad R I := by
  refine ⟨(Xd a _ v).trans h.size, (YP a _ v).trans h.defers, fun u s e => ?_⟩
  rw [Yy a t u v (by rintro rfl; rw [hf] at e; cases e)]; exact h.at_ u s e
theorem denW_more {s : Wd} {v : Value} (R' : List Value) (h : VW rb Ad R I s = some v) : VW rb Ad (R ++ R') I s = some v := by
  cases s with
  | res n =>
    simp only [VW] at h ⊢
    rw [List.getElem?_append_left (List.getElem?_eq_some_iff.1 h).1]; exact h
  | _ => exact h
theorem KnW.more (h : KnW N rb a A Ad R I) (R' : List Value) : KnW N rb a A Ad (R ++ R') I := ⟨h.size, h.defers, fun t s e => denW_more R' (h.at_ t s e)⟩
/-- One more thing is given. -/
theorem KnW.give (h : KnW N rb a A Ad R I) {t : Nat} (v : Value) (ht : Nat.blt t N = true) : KnW N rb (a.put (some t) v) ((t, .res R.length) :: A) Ad (R ++ [v]) I :=
  (h.more [v]).put (by simp [VW]) ht
end
end Go.Proofs.YtgjplodgdgaakaaGreatDoor

/- That the reading of code that VV tells the truth: operations that look. Over any program. -/
namespace Go.Proofs.YtgjplodgdgaakaaGreatDoor
open Go Go.RowKit

/-- The item that is filled: its block, from which block on its data lie; the cells ahead and behind; its own; what they say. -/
structure Wi where
  b : Nat
  lo : Nat
  pre : List Value
  post : List Value
  cs : List Value
  e : TypeId
  ds : List D
def HiV (R : List Value) (v : Value) : Hi → Prop
  | .rd p => ∀ a, shR p = [.int a] → ∃ m, v = .int a m ∧ a.wrap m = m
  | .len _ => ∃ l, v = .int .i32 l
  | .lz n => ∃ l : Int, R[n]? = some (.int .i32 l) ∧ v = .bool (l == 0)
  | .lp n => ∃ l : Int, R[n]? = some (.int .i32 l) ∧ v = .bool (decide (0 < l))
  | .sl0 _ => ∃ b c, v = .slice b 0 c
  | _ => True
def HOk (H : List Hi) (R : List Value) : Prop := R.length = H.length ∧ ∀ (n : Nat) (h : Hi) (v : Value), H[n]? = some h → R[n]? = some v → HiV R v h
def LastV (ev : Value) (st : Option (List UInt8)) (v : Value) : Hi → Prop
  | .okv => v = .bool st.isSome
  | .nok => v = .bool (!st.isSome)
  | .er => v = endV ev st
  | _ => True
def LastOk (ev : Value) (st : Option (List UInt8)) (H : List Hi) (R : List Value) : Prop :=
  ∀ (h : Hi) (v : Value), H[H.length - 1]? = some h → R[H.length - 1]? = some v → LastV ev st v h
def OutR (acts : List Ra) (ds0 : List D) (sst : Option (List UInt8)) (ds : List D) (st : Option (List UInt8)) : Prop :=
  shDs ds = shDs ds0 ∧ match sst with
    | none => st = none
    | some s => match rdAs acts ds0 s with
      | some x => st = some x.2 ∧ ds = x.1
      | none => st = none
/-- A row, out of octets. -/
def rowP (c nb st : Bool) (dfl : List Value) (body : List Ra) (s : List UInt8) : Option (D × List UInt8) :=
  (lenP c s).bind fun x => (VO body (Xj dfl) x.1.toNat x.2).map fun y =>
    (if nb then (if x.1 < 0 then .sl true [] else .sl false (y.1.map (elD st))) else .sq (y.1.map (elD st)), y.2)
def RowRel (c nb stt : Bool) (dfl : List Value) (body : List Ra) (st0 : Option (List UInt8)) (d : D) (st : Option (List UInt8)) : Prop :=
  shD d = [.sl] ∧ match st0 with
    | none => st = none
    | some s => match rowP c nb stt dfl body s with
      | some x => st = some x.2 ∧ d = x.1
      | none => st = none
/-- What the empty list is, where it was made: nothing, or a place of no cells. -/
def ZOkR (sb lo : Nat) (w : World) (R : List Value) (l : Int) : Option Nat → Prop
  | none => True
  | some z => (l ≠ 0 → R[z]? = some (.slice none 0 0)) ∧ (l = 0 → ∃ b, R[z]? = some (.slice (some ⟨b, 0, none⟩) 0 0) ∧ Dk sb lo w b ∧ YN w b 0 [])
/-- What a new row is. -/
def NewRow (sb lo : Nat) (w : World) (R : List Value) (ds : List D) (cs : List Value) (l : Int) (z : Option Nat) (v : Value) (sz : Nat) (zc : List Value) : Prop :=
  (0 < l → ∃ g cap e, v = .slice (some ⟨g, 0, none⟩) l.toNat cap ∧ lo ≤ g ∧ g < w.heap.size ∧ l.toNat ≤ cap ∧ Box w g (List.replicate cap zc).flatten e ∧ zc.length = sz ∧ YX (fun r => Dk sb lo w r ∧ r < g) w ds cs) ∧
  (¬ 0 < l → (match z with | none => v = .slice none 0 0 | some z => R[z]? = some v))
def PdOk (sb lo : Nat) (w : World) (R : List Value) (ds : List D) (cs : List Value) (zs : List (Nat × List Value)) (st0 st : Option (List UInt8)) : Pd → Prop
  | .no => st = st0
  | .rd p n => ∃ v nd, R[n]? = some v ∧ YX (Dk sb lo w) w nd v.cells.toList ∧ (v.cells.toList.all fun v => v.oneCell') = true ∧ ((shR p).length = 1 → v.cells = #[v]) ∧ Yd9 p st0 nd st
  | .len c n z => ∃ l, R[n]? = some (.int .i32 l) ∧ Uq c st0 l st ∧ ZOkR sb lo w R l z
  | .ok c n z => ∃ l s, R[n]? = some (.int .i32 l) ∧ Uq c st0 l st ∧ st = some s ∧ ZOkR sb lo w R l z
  | .made c n z r => ∃ l s v zc rest, R[n]? = some (.int .i32 l) ∧ Uq c st0 l st ∧ st = some s ∧ ZOkR sb lo w R l z ∧ R[r]? = some v ∧ zs = (r, zc) :: rest ∧ NewRow sb lo w R ds cs l z v zc.length zc ∧ (zc.all fun v => v.oneCell') = true ∧ 0 < zc.length
  | .done c nb r stt dfl body => ∃ v d, R[r]? = some v ∧ v.cells = #[v] ∧ v.oneCell' = true ∧ Rep (Dk sb lo w) w d [v] ∧ RowRel c nb stt dfl body st0 d st
  | .tg n => ∃ m u, R[n]? = some (.agg #[m]) ∧ m.oneCell' = true ∧ Rep (Dk sb lo w) w (Uz u) [m] ∧ Yk2 st0 u st
  | .vr n m => ∃ v nd ub e, R[n]? = some v ∧ YX (Dk sb lo w) w nd v.cells.toList ∧ (v.cells.toList.all fun v => v.oneCell') = true ∧ Yd9 .uuid st0 nd st ∧ R[m]? = some (.pointer (some ⟨ub, 0, none⟩)) ∧ Box w ub v.cells.toList e ∧ lo ≤ ub
/-- All that is YI at a point. -/
structure RAt (N g rb sb : Nat) (ev : Value) (k : Nat) (rows : List (Nat × Nat × Nat)) (zs : List (Nat × List Value)) (S : RS) (Ad : List (Nat × Nat)) (R : List Value) (I : List Int) (it : Wi) (sst st0 st : Option (List UInt8)) (a : Act) (w : World) : Prop where
  kn : KnW N rb a S.A Ad R I
  ho : HOk S.H R
  last : LastOk ev st S.H R
  ad : Ad[k]? = some (it.b, it.pre.length)
  lens : Ad.length = k + 1 ∧ I.length = k + 1
  row : ∀ q rest, rows = q :: rest → q.1 = k → ∃ (n cap j : Nat), R[q.2.1]? = some (.slice (some ⟨it.b, 0, none⟩) n cap) ∧ I[k]? = some (j : Int) ∧ it.pre.length = j * q.2.2 ∧ j < n
  box : Box w it.b (it.pre ++ it.cs ++ it.post) it.e
  ds : YX (Dk sb it.lo w) w it.ds it.cs
  cl : S.cells.length = it.cs.length
  sh : shDs it.ds = S.shp ∧ ∀ d ∈ it.ds, d.width = 1
  cells : ∀ (j : Nat) (v : Value), S.cells[j]? = some (some v) → it.cs[j]? = some v
  rdr : Rdr w rb sb st
  pd : PdOk sb it.lo w R it.ds it.cs zs st0 st S.pd
  fresh : S.acts = [] → it.ds = Xj it.cs ∧ S.dfl = it.cs
  rel : OutR S.acts (Xj S.dfl) sst it.ds st0
  lo : it.b < it.lo ∧ rb < it.lo ∧ sb < it.lo ∧ it.lo ≤ w.heap.size
  ne : rb ≠ sb ∧ it.b ≠ rb ∧ it.b ≠ sb
  gl : w.cell? ⟨g, 0, none⟩ = some ev ∧ g ≠ rb ∧ g < it.lo ∧ g ≠ it.b
theorem Box.at {w : World} {b : Nat} {pre cs post : List Value} {e : TypeId} (h : Box w b (pre ++ cs ++ post) e) {j : Nat} {v : Value} (hj : cs[j]? = some v) : w.cell? ⟨b, pre.length + j, none⟩ = some v := by
  refine h.cell ?_
  have := (List.getElem?_eq_some_iff.1 hj).1
  rw [List.append_assoc, List.getElem?_append_right (by omega), Nat.add_sub_cancel_left, List.getElem?_append_left this]
  exact hj
section
variable {P : Program} {K : Kr} {N g rb sb : Nat} {ev : Value} {k : Nat} {rows : List (Nat × Nat × Nat)} {zs : List (Nat × List Value)} {S : RS} {Ad : List (Nat × Nat)} {R : List Value} {I : List Int} {it : Wi} {sst st0 st : Option (List UInt8)} {a : Act} {w : World}
theorem Yj1 {k' o : Nat} {v : Value} (h : VW rb Ad R I (.at_ k' o) = some v) : ∃ p, Ad[k']? = some p ∧ v = .pointer (some ⟨p.1, p.2 + o, none⟩) := by
  simp only [VW, Option.map_eq_some_iff] at h
  obtain ⟨p, h1, h2⟩ := h
  exact ⟨p, h1, h2.symm⟩
theorem lookR_ok (H : RAt N g rb sb ev k rows zs S Ad R I it sst st0 st a w) {op : Op} {x : Wd} (h : lookR P k S op = some x) : ∃ v, VW rb Ad R I x = some v ∧ Puts P op a w v := by
  unfold lookR at h
  split at h
  · rename_i y
    exact ⟨a.eval y, H.kn.eval h, fun _ _ _ _ _ _ _ hw => Vn hw⟩
  · rename_i y
    exact ⟨a.eval y, H.kn.eval h, fun _ _ _ _ _ _ _ hw => Vt hw⟩
  · split at h
    · rename_i k' o hx
      cases h
      obtain ⟨p, hp, hv⟩ := Yj1 (H.kn.eval hx)
      exact ⟨_, by simp only [VW, hp, Option.map_some], fun _ _ _ _ _ _ _ hw => VF hv hw⟩
    · cases h
  · split at h
    · rename_i k' o hx
      split at h
      · rename_i off ho
        cases h
        obtain ⟨p, hp, hv⟩ := Yj1 (H.kn.eval hx)
        refine ⟨.pointer (some ⟨p.1, p.2 + (o + off), none⟩), by simp only [VW, hp, Option.map_some], fun _ _ _ _ _ _ _ hw => VQ hv ho ?_⟩
        rw [YM _ _ rfl, Nat.add_assoc]; exact hw
      · cases h
    · cases h
  · split at h
    · rename_i t x' _ k' o hx
      cases hc : Nat.beq k k' && XR P t with
      | false => rw [hc] at h; cases h
      | true =>
        rw [hc] at h
        simp only [cond_true] at h
        rw [Bool.and_eq_true] at hc
        have := Ys hc.1; subst this
        split at h
        · rename_i v hv
          cases h
          obtain ⟨p, hp, he⟩ := Yj1 (H.kn.eval hx)
          rw [H.ad] at hp; cases hp
          exact ⟨v, rfl, fun _ _ _ _ _ _ _ hw => st_load he hc.2 (H.box.at (H.cells o v hv)) hw⟩
        · cases h
    · cases h
  · rename_i op t x' y' u
    split at h
    · rename_i kk m hx
      have e1 : a.eval x' = .int kk m := by have := H.kn.eval hx; simp only [VW, Option.some.injEq] at this; exact this.symm
      split at h
      · rename_i k' n hy
        have e2 : a.eval y' = .int k' n := by have := H.kn.eval hy; simp only [VW, Option.some.injEq] at this; exact this.symm
        cases hk : kEq kk k' with
        | false => rw [hk] at h; cases h
        | true =>
          rw [hk] at h
          have hkk : kk = k' := of_decide_eq_true hk
          subst hkk
          simp only [cond_true, Option.map_eq_some_iff] at h
          obtain ⟨v, hv, rfl⟩ := h
          exact ⟨v, rfl, cmpV_ok hv e1 e2⟩
      · cases h
    · cases h
  · rename_i x'
    split at h
    · rename_i b hx
      cases h
      have e1 : a.eval x' = .bool b := by have := H.kn.eval hx; simp only [VW, Option.some.injEq] at this; exact this.symm
      exact ⟨_, rfl, fun _ _ _ _ _ _ _ hw => st_not e1 hw⟩
    · cases h
  · rename_i c x' y'
    split at h
    · rename_i hc
      have e1 : a.eval c = .bool true := by have := H.kn.eval hc; simp only [VW, Option.some.injEq] at this; exact this.symm
      exact ⟨a.eval x', H.kn.eval h, fun _ _ _ _ _ _ _ hw => Yi4 e1 (by simpa using hw)⟩
    · rename_i hc
      have e1 : a.eval c = .bool false := by have := H.kn.eval hc; simp only [VW, Option.some.injEq] at this; exact this.symm
      exact ⟨a.eval y', H.kn.eval h, fun _ _ _ _ _ _ _ hw => Yi4 e1 (by simpa using hw)⟩
    · cases h
  · rename_i s t x'
    split at h
    · rename_i n hx
      split at h
      · rename_i p ka kb hh ha hb
        cases hc : kEq ka kb && decide (shR p = [.int ka]) with
        | false => rw [hc] at h; cases h
        | true =>
          rw [hc] at h
          simp only [cond_true, Option.some.injEq] at h
          subst h
          simp only [Bool.and_eq_true, decide_eq_true_eq, kEq] at hc
          obtain ⟨rfl, hsh⟩ := hc
          have hd := H.kn.eval hx
          obtain ⟨m, hm, hwr⟩ := H.ho.2 n _ _ hh hd ka hsh
          refine ⟨a.eval x', hd, fun _ _ _ _ _ _ _ hw => Jh hm (UL ha) (UL hb) ?_⟩
          rw [hwr, ← hm]; exact hw
      · cases h
    · cases h
  · rename_i t x'
    split at h
    · rename_i hx
      cases hs : Vc P t with
      | false => rw [hs] at h; cases h
      | true =>
        rw [hs] at h
        simp only [cond_true, Option.some.injEq] at h
        subst h
        have e1 : a.eval x' = .slice none 0 0 := by have := H.kn.eval hx; simp only [VW, Option.some.injEq] at this; exact this.symm
        exact ⟨_, rfl, fun _ _ _ _ _ _ _ hw => st_slice0 e1 hs hw⟩
    · rename_i n hx
      split at h
      · rename_i z hh
        cases hs : Vc P t with
        | false => rw [hs] at h; cases h
        | true =>
          rw [hs] at h
          simp only [cond_true, Option.some.injEq] at h
          subst h
          have hd := H.kn.eval hx
          obtain ⟨b, c, hv⟩ := H.ho.2 n _ _ hh hd
          refine ⟨a.eval x', hd, fun _ _ _ _ _ _ _ hw => st_slice0 hv hs ?_⟩
          rw [hv] at hw; exact hw
      · cases h
    · cases h
  · cases h
theorem elemR_ok (H : RAt N g rb sb ev k rows zs S Ad R I it sst st0 st a w) {op : Op} {x : Wd} (h : elemR P k rows S op = some x) : ∃ v, VW rb Ad R I x = some v ∧ Puts P op a w v := by
  unfold elemR at h
  split at h
  · rename_i t x' y'
    split at h
    · rename_i n m hx hy
      cases hm : Nat.beq m k with
      | false => rw [hm] at h; cases h
      | true =>
        rw [hm] at h
        have := Ys hm; subst this
        simp only [cond_true] at h
        split at h
        · rename_i q rest
          cases hc : Nat.beq q.1 m && Nat.beq q.2.1 n && szIs P t (q.2.2 + 1) with
          | false => rw [hc] at h; cases h
          | true =>
            rw [hc] at h
            simp only [cond_true, Option.some.injEq] at h
            subst h
            simp only [Bool.and_eq_true] at hc
            obtain ⟨n', cap, j, hr, hij, hpl, hj⟩ := H.row q rest rfl (Ys hc.1.1)
            rw [Ys hc.1.2] at hr
            have hd := H.kn.eval hx
            simp only [VW] at hd
            rw [hr] at hd
            have e1 : a.eval x' = .slice (some ⟨it.b, 0, none⟩) n' cap := by simpa using hd.symm
            have hd2 := H.kn.eval hy
            simp only [VW, hij, Option.map_some, Option.some.injEq] at hd2
            have hsz := hc.2
            unfold szIs at hsz
            split at hsz
            · rename_i sz he
              have := Ys hsz
              simp only [Nat.add_right_cancel_iff] at this
              subst this
              refine ⟨.pointer (some ⟨it.b, it.pre.length + 0, none⟩), by simp only [VW, H.ad, Option.map_some], fun _ _ _ _ _ _ _ hw => UU e1 hd2.symm he hj ?_⟩
              rw [YM _ _ rfl]
              rw [hpl] at hw
              simpa using hw
            · cases hsz
        · cases h
    · cases h
  · cases h
end
end Go.Proofs.YtgjplodgdgaakaaGreatDoor

/- That the reading of code that VV tells the truth: operations that give something. Over any program. -/
namespace Go.Proofs.YtgjplodgdgaakaaGreatDoor
open Go Go.RowKit

theorem Xa {α : Type} {R R' : List α} {n : Nat} {v : α} (h : R[n]? = some v) : (R ++ R')[n]? = some v := by
  rw [List.getElem?_append_left (List.getElem?_eq_some_iff.1 h).1]; exact h
theorem HiV.more {R R' : List Value} {v : Value} {h : Hi} (hv : HiV R v h) : HiV (R ++ R') v h := by
  cases h with
  | lz n => obtain ⟨l, h1, h2⟩ := hv; exact ⟨l, Xa h1, h2⟩
  | lp n => obtain ⟨l, h1, h2⟩ := hv; exact ⟨l, Xa h1, h2⟩
  | _ => exact hv
theorem HOk.give {H : List Hi} {R : List Value} (h : HOk H R) {x : Hi} {v : Value} (hv : HiV R v x) : HOk (H ++ [x]) (R ++ [v]) := by
  refine ⟨by simp [h.1], fun n y u hy hu => ?_⟩
  by_cases hn : n < H.length
  · rw [List.getElem?_append_left hn] at hy
    rw [List.getElem?_append_left (by rw [h.1]; exact hn)] at hu
    exact (h.2 n y u hy hu).more
  · rw [List.getElem?_append_right (by omega)] at hy
    rw [List.getElem?_append_right (by rw [h.1]; omega)] at hu
    rw [h.1] at hu
    cases hj : n - H.length with
    | zero => rw [hj] at hy hu; simp at hy hu; subst hy; subst hu; exact hv.more
    | succ j => rw [hj] at hy; simp at hy
theorem last_give {ev : Value} {st : Option (List UInt8)} {H : List Hi} {R : List Value} (hl : R.length = H.length) {x : Hi} {v : Value} (hv : LastV ev st v x) : LastOk ev st (H ++ [x]) (R ++ [v]) := by
  intro h u hh hu
  simp only [List.length_append, List.length_cons, List.length_nil, Nat.add_sub_cancel] at hh hu
  rw [List.getElem?_append_right (Nat.le_refl _), Nat.sub_self] at hh
  rw [← hl, List.getElem?_append_right (Nat.le_refl _), Nat.sub_self] at hu
  simp at hh hu
  subst hh; subst hu
  exact hv
theorem ZOkR.more {sb lo : Nat} {w : World} {R R' : List Value} {l : Int} {z : Option Nat} (h : ZOkR sb lo w R l z) : ZOkR sb lo w (R ++ R') l z := by
  cases z with
  | none => trivial
  | some z => exact ⟨fun e => Xa (h.1 e), fun e => by obtain ⟨b, h1, h2⟩ := h.2 e; exact ⟨b, Xa h1, h2⟩⟩
theorem NewRow.more {sb lo : Nat} {w : World} {R R' : List Value} {ds : List D} {cs : List Value} {l : Int} {z : Option Nat} {v : Value} {sz : Nat} {zc : List Value} (h : NewRow sb lo w R ds cs l z v sz zc) : NewRow sb lo w (R ++ R') ds cs l z v sz zc := by
  refine ⟨h.1, fun e => ?_⟩
  have := h.2 e
  cases z with
  | none => exact this
  | some z => exact Xa this
theorem PdOk.more {sb lo : Nat} {w : World} {R R' : List Value} {ds : List D} {cs : List Value} {zs : List (Nat × List Value)} {st0 st : Option (List UInt8)} {pd : Pd} (h : PdOk sb lo w R ds cs zs st0 st pd) : PdOk sb lo w (R ++ R') ds cs zs st0 st pd := by
  cases pd with
  | no => exact h
  | rd p n => obtain ⟨v, nd, h1, h2⟩ := h; exact ⟨v, nd, Xa h1, h2⟩
  | len c n z => obtain ⟨l, h1, h2, h3⟩ := h; exact ⟨l, Xa h1, h2, h3.more⟩
  | ok c n z => obtain ⟨l, s, h1, h2, h3, h4⟩ := h; exact ⟨l, s, Xa h1, h2, h3, h4.more⟩
  | made c n z r => obtain ⟨l, s, v, zc, rest, h1, h2, h3, h4, h5, h6, h7, h8⟩ := h; exact ⟨l, s, v, zc, rest, Xa h1, h2, h3, h4.more, Xa h5, h6, h7.more, h8⟩
  | done c nb r stt dfl body => obtain ⟨v, d, h1, h2⟩ := h; exact ⟨v, d, Xa h1, h2⟩
  | tg n => obtain ⟨m, u, h1, h2⟩ := h; exact ⟨m, u, Xa h1, h2⟩
  | vr n m => obtain ⟨v, nd, ub, e, h1, h2, h3, h4, h5, h6⟩ := h; exact ⟨v, nd, ub, e, Xa h1, h2, h3, h4, Xa h5, h6⟩
theorem Rep1.up {sb lo : Nat} {S : Nat → Prop} {w w' : World} {d : D} {cs : List Value} (hr : Rep (Dk sb lo w) w d cs) (h : Chg S w w') (hs : ∀ k, S k → k < lo ∧ k ≠ sb) : Rep (Dk sb lo w') w' d cs :=
  hr.up (fun r hr => ⟨hr.1, Nat.lt_of_lt_of_le hr.2 h.size⟩) (fun r hr => h.block r hr.2 (fun e => by
    obtain ⟨h1, h2⟩ := hs r e
    rcases hr.1 with h | h
    · exact h2 h
    · omega))
theorem ZOkR.turn {sb lo : Nat} {S : Nat → Prop} {w w' : World} {R : List Value} {l : Int} {z : Option Nat} (h : ZOkR sb lo w R l z) (hc : Chg S w w') (hs : ∀ k, S k → k < lo ∧ k ≠ sb) : ZOkR sb lo w' R l z := by
  cases z with
  | none => trivial
  | some z =>
    refine ⟨h.1, fun e => ?_⟩
    obtain ⟨b, h1, h2, h3⟩ := h.2 e
    exact ⟨b, h1, ⟨h2.1, Nat.lt_of_lt_of_le h2.2 hc.size⟩, h3.chg hc (fun hsb => by
      obtain ⟨h4, h5⟩ := hs b hsb
      rcases h2.1 with h | h
      · exact h5 h
      · omega)⟩
theorem PdOk.turn {sb lo : Nat} {S : Nat → Prop} {w w' : World} {R : List Value} {ds : List D} {cs : List Value} {zs : List (Nat × List Value)} {st0 st : Option (List UInt8)} {pd : Pd} (h : PdOk sb lo w R ds cs zs st0 st pd) (hc : Chg S w w') (hs : ∀ k, S k → k < lo ∧ k ≠ sb) : PdOk sb lo w' R ds cs zs st0 st pd := by
  cases pd with
  | no => exact h
  | rd p n => obtain ⟨v, nd, h1, h2, h3⟩ := h; exact ⟨v, nd, h1, Dk.up h2 hc hs, h3⟩
  | len c n z => obtain ⟨l, h1, h2, h3⟩ := h; exact ⟨l, h1, h2, h3.turn hc hs⟩
  | ok c n z => obtain ⟨l, s, h1, h2, h3, h4⟩ := h; exact ⟨l, s, h1, h2, h3, h4.turn hc hs⟩
  | made c n z r =>
    obtain ⟨l, s, v, zc, rest, h1, h2, h3, h4, h5, h6, h7, h8⟩ := h
    refine ⟨l, s, v, zc, rest, h1, h2, h3, h4.turn hc hs, h5, h6, ⟨fun hl => ?_, h7.2⟩, h8⟩
    obtain ⟨g, cap, e, g1, g2, g3, g4, g5, g6, g7⟩ := h7.1 hl
    refine ⟨g, cap, e, g1, g2, Nat.lt_of_lt_of_le g3 hc.size, g4, g5.chg hc (fun hsg => by have := (hs g hsg).1; omega), g6, ?_⟩
    refine g7.up (fun r hr => ⟨⟨hr.1.1, Nat.lt_of_lt_of_le hr.1.2 hc.size⟩, hr.2⟩) (fun r hr => hc.block r hr.1.2 (fun e => ?_))
    obtain ⟨h1, h2⟩ := hs r e
    rcases hr.1.1 with h | h
    · exact h2 h
    · omega
  | done c nb r stt dfl body => obtain ⟨v, d, h1, h2, h3, h4, h5⟩ := h; exact ⟨v, d, h1, h2, h3, Rep1.up h4 hc hs, h5⟩
  | tg n => obtain ⟨m, u, h1, h2, h3, h4⟩ := h; exact ⟨m, u, h1, h2, Rep1.up h3 hc hs, h4⟩
  | vr n m => obtain ⟨v, nd, ub, e, h1, h2, h3, h4, h5, h6, h7⟩ := h; exact ⟨v, nd, ub, e, h1, Dk.up h2 hc hs, h3, h4, h5, h6.chg hc (fun h => by have := (hs ub h).1; omega), h7⟩
section
variable {P : Program} {K : Kr} {N g rb sb : Nat} {ev : Value} {k : Nat} {rows : List (Nat × Nat × Nat)} {zs : List (Nat × List Value)} {S : RS} {Ad : List (Nat × Nat)} {R : List Value} {I : List Int} {it : Wi} {sst st0 st : Option (List UInt8)} {a : Act} {w : World}
/-- Something is given; the reader may have turned. -/
theorem RAt.give (H : RAt N g rb sb ev k rows zs S Ad R I it sst st0 st a w) {t : Nat} {h : Hi} {pd : Pd} {v : Value} {w' : World} {st' : Option (List UInt8)} (ht : Nat.blt t N = true) (hc : Chg (· = rb) w w') (hr : Rdr w' rb sb st') (hv : HiV R v h)
    (hl : LastV ev st' v h) (hpd : PdOk sb it.lo w' (R ++ [v]) it.ds it.cs zs st0 st' pd) :
    RAt N g rb sb ev k rows zs { (S.new t h) with pd := pd } Ad (R ++ [v]) I it sst st0 st' (a.put (some t) v) w' := by
  have hs : ∀ j, j = rb → j < it.lo ∧ j ≠ sb := by rintro j rfl; exact ⟨H.lo.2.1, H.ne.1⟩
  refine ⟨?_, H.ho.give hv, last_give H.ho.1 hl, H.ad, H.lens, ?_, H.box.chg hc H.ne.2.1, Dk.up H.ds hc hs, H.cl, H.sh, H.cells, hr, hpd, H.fresh, H.rel, ⟨H.lo.1, H.lo.2.1, H.lo.2.2.1, Nat.le_trans H.lo.2.2.2 hc.size⟩, H.ne, ?_⟩
  · have := H.kn.give v ht (t := t)
    rw [H.ho.1] at this
    exact this
  · intro q rest hq hk
    obtain ⟨n, cap, j, h1, h2⟩ := H.row q rest hq hk
    exact ⟨n, cap, j, Xa h1, h2⟩
  · refine ⟨?_, H.gl.2⟩
    have h1 := H.gl.1
    have hg : w'.heap[g]? = w.heap[g]? := hc.block g (by have := H.lo.2.2.2; have := H.gl.2.2.1; omega) H.gl.2.1
    simp only [World.cell?] at h1 ⊢
    rw [hg]; exact h1
theorem giveR_ok (hK : KrOk P K g ev) (H : RAt N g rb sb ev k rows zs S Ad R I it sst st0 st a w) {op : Op} {h : Hi} {pd : Pd} (hg : giveR K P S op = some (h, pd)) {ops : Array Oper} {Q : Exit → Act → World → Prop} {rest : List Oper} {t : Nat} {ty : TypeId} {pos : String} {aft : Array Edge} (ht : Nat.blt t N = true)
    (hq : ∀ v w' st', Chg (· = rb) w w' → RAt N g rb sb ev k rows zs { (S.new t h) with pd := pd } Ad (R ++ [v]) I it sst st0 st' (a.put (some t) v) w' → wpList P ops Q rest (a.put (some t) v) w') : wpList P ops Q (⟨some t, op, ty, pos, aft, none⟩ :: rest) a w := by
  have same := fun (v : Value) (hv : HiV R v h) hl hp => H.give (pd := pd) ht (Chg.refl _ w) H.rdr hv hl hp
  unfold giveR at hg
  split at hg
  · rename_i f x _
    cases hf : Ut P f with
    | false => rw [hf] at hg; cases hg
    | true =>
      rw [hf] at hg
      simp only [cond_true] at hg
      split at hg
      · rename_i hx
        have ex : a.eval x = .pointer (some ⟨rb, 0, none⟩) := by have := H.kn.eval hx; simp only [VW, Option.some.injEq] at this; exact this.symm
        have e : (#[x] : Array Operand).map a.eval = #[.pointer (some ⟨rb, 0, none⟩)] := by simp [ex]
        split at hg
        · rename_i hpd
          have hst : st = st0 := by have := H.pd; rw [hpd] at this; exact this
          subst hst
          split at hg
          · rename_i p hp
            cases hg
            refine VU hf ?_
            rw [e]
            refine (hK.rd f p hp hf w rb sb it.lo st H.rdr H.lo.2.1 H.lo.2.2.1 H.lo.2.2.2 H.ne.1).mono (fun e w' he => ?_)
            obtain ⟨v, nd, st', rfl, hc, hr, hrep, h1, hone, hrel⟩ := he
            refine ⟨v, rfl, hq v w' st' hc (H.give ht hc hr ?_ trivial ?_)⟩
            · intro ka hsh
              have hv1 := hone (by rw [hsh]; rfl)
              have hlist : v.cells.toList = [v] := by rw [hv1]
              rw [hlist] at hrep
              have := Yk4 _ _ hrep 0 (.int ka) v (by rw [hrel.1, hsh]; rfl) rfl
              exact this
            · rw [← H.ho.1]
              exact ⟨v, nd, by simp, hrep, h1, hone, hrel⟩
          · split at hg
            · rename_i c hcc
              cases hg
              refine VU hf ?_
              rw [e]
              refine (hK.len f c hcc hf w rb sb it.lo st H.rdr H.lo.2.1 H.lo.2.2.1 H.lo.2.2.2 H.ne.1).mono (fun e w' he => ?_)
              obtain ⟨l, st', rfl, hc, hr, hrel⟩ := he
              refine ⟨_, rfl, hq _ w' st' hc (H.give ht hc hr ⟨l, rfl⟩ trivial ?_)⟩
              rw [← H.ho.1]
              exact ⟨l, by simp, hrel, trivial⟩
            · cases ht' : Nat.beq f K.tags with
              | true =>
                rw [ht'] at hg
                simp only [cond_true, Option.some.injEq, Prod.mk.injEq] at hg
                obtain ⟨rfl, rfl⟩ := hg
                have := Ys ht'; subst this
                refine VU hf ?_
                rw [e]
                refine (hK.tags hf w rb sb it.lo st H.rdr H.lo.2.1 H.lo.2.2.1 H.lo.2.2.2 H.ne.1).mono (fun e w' he => ?_)
                obtain ⟨m, u, st', rfl, hc, hr, h1, hrep, hrel⟩ := he
                refine ⟨_, rfl, hq _ w' st' hc (H.give ht hc hr trivial trivial ?_)⟩
                rw [← H.ho.1]
                exact ⟨m, u, by simp, h1, hrep, hrel⟩
              | false =>
                rw [ht'] at hg
                simp only [cond_false] at hg
                cases hco : Nat.beq f K.comp with
                | false => rw [hco] at hg; cases hg
                | true =>
                  rw [hco] at hg
                  simp only [cond_true, Option.some.injEq, Prod.mk.injEq] at hg
                  obtain ⟨rfl, rfl⟩ := hg
                  have := Ys hco; subst this
                  refine VU hf ?_
                  rw [e]
                  refine (hK.comp hf w rb sb st H.rdr H.gl.1).mono (fun e w' he => ?_)
                  obtain ⟨rfl, rfl⟩ := he
                  exact ⟨_, rfl, hq _ w' st (Chg.refl _ _) (same _ trivial rfl rfl)⟩
        · rename_i c n z hpd
          cases hok : Nat.beq f K.ok with
          | false => rw [hok] at hg; cases hg
          | true =>
            rw [hok] at hg
            simp only [cond_true, Option.some.injEq, Prod.mk.injEq] at hg
            obtain ⟨rfl, rfl⟩ := hg
            have := Ys hok; subst this
            refine VU hf ?_
            rw [e]
            refine (hK.ok hf w rb sb st H.rdr).mono (fun e w' he => ?_)
            obtain ⟨rfl, rfl⟩ := he
            have hp := H.pd
            rw [hpd] at hp
            exact ⟨_, rfl, hq _ w' st (Chg.refl _ _) (same _ trivial rfl hp.more)⟩
        · cases hg
      · cases hg
  · rename_i x'
    split at hg
    · rename_i n hx
      split at hg
      · rename_i hh
        cases hn : Nat.beq (n + 1) S.H.length with
        | false => rw [hn] at hg; cases hg
        | true =>
          rw [hn] at hg
          simp only [cond_true, Option.some.injEq, Prod.mk.injEq] at hg
          obtain ⟨rfl, rfl⟩ := hg
          have hnl := Ys hn
          have hd := H.kn.eval hx
          simp only [VW] at hd
          have hlast := H.last .okv (a.eval x') (by rw [← hnl, Nat.add_sub_cancel]; exact hh) (by rw [← hnl, Nat.add_sub_cancel]; exact hd)
          refine st_not hlast (hq _ w st (Chg.refl _ _) (same _ trivial rfl H.pd.more))
      · cases hg
    · cases hg
  · rename_i t' x' u'
    split at hg
    · rename_i n hx
      split at hg
      · rename_i c hh
        cases hg
        have hd := H.kn.eval hx
        obtain ⟨l, hl⟩ := H.ho.2 n _ _ hh hd
        refine st_eql hl (by rfl) (hq _ w st (Chg.refl _ _) (same _ ⟨l, ?_, rfl⟩ trivial H.pd.more))
        rw [← hl]; exact hd
      · cases hg
    · cases hg
  · rename_i t' x' u'
    split at hg
    · rename_i n hx
      split at hg
      · rename_i c hh
        cases hg
        have hd := H.kn.eval hx
        obtain ⟨l, hl⟩ := H.ho.2 n _ _ hh hd
        refine st_gtr hl (by rfl) (hq _ w st (Chg.refl _ _) (same _ ⟨l, ?_, rfl⟩ trivial H.pd.more))
        rw [← hl]; exact hd
      · cases hg
    · cases hg
  · cases hg
end
end Go.Proofs.YtgjplodgdgaakaaGreatDoor

/- That the reading of code that VV tells the truth: the defaults; what is put into cells. Over any program. -/
namespace Go.Proofs.YtgjplodgdgaakaaGreatDoor
open Go Go.RowKit

theorem setAll_append : ∀ (l m : List (Nat × Value)) (cs : List Value), setAll (l ++ m) cs = (setAll l cs).bind (setAll m)
  | [], m, cs => rfl
  | x :: l, m, cs => by
    simp only [List.cons_append, setAll]
    cases Nat.blt x.1 cs.length with
    | true => simp only [cond_true]; exact setAll_append l m _
    | false => rfl
theorem set_mid (pre cs post : List Value) (j : Nat) (v : Value) (h : j < cs.length) : (pre ++ cs ++ post).set (pre.length + j) v = pre ++ cs.set j v ++ post := by
  rw [List.append_assoc, List.set_append_right _ _ (by omega), Nat.add_sub_cancel_left, List.set_append_left _ _ h, List.append_assoc]
section
variable {P : Program} {K : Kr} {N g rb sb : Nat} {ev : Value} {k : Nat} {rows : List (Nat × Nat × Nat)} {zs : List (Nat × List Value)} {S : RS} {Ad : List (Nat × Nat)} {R : List Value} {I : List Int} {it : Wi} {sst st0 st : Option (List UInt8)} {a : Act} {w : World}
/-- Slots that hold places of the struct. -/
def InR (R : List (Nat × Nat)) (b n : Nat) (a : Act) : Prop := ∀ q ∈ R, gt a q.1 = .pointer (some ⟨b, n + q.2, none⟩)
theorem offOf_mem : ∀ {R : List (Nat × Nat)} {t o : Nat}, offOf R t = some o → (t, o) ∈ R
  | [], _, _, h => by cases h
  | q :: r, t, o, h => by
    simp only [offOf] at h
    cases hb : Nat.beq q.1 t with
    | true => rw [hb] at h; simp only [cond_true, Option.some.injEq] at h; rw [← Ys hb, ← h]; exact List.mem_cons_self
    | false => rw [hb] at h; exact List.mem_cons_of_mem _ (offOf_mem h)
theorem InR.put {R : List (Nat × Nat)} {b n : Nat} {a : Act} (h : InR R b n a) {t : Nat} (v : Value) (ho : outR R t = true) : InR R b n (a.put (some t) v) := by
  intro q hq
  have h1 := List.all_eq_true.1 ho q hq
  rw [Yy]
  · exact h q hq
  · intro e; rw [e, Nat.beq_refl] at h1; cases h1
theorem defR_ok : ∀ (n : Nat) (R : List (Nat × Nat)) (c : Code) (l : List (Nat × Value)) (R' : List (Nat × Nat)), defR P N n R c = some (l, R') → ∀ (a : Act) (w : World) (b : Nat) (pre cs post cs' : List Value) (e : TypeId) (Q : Exit → Act → World → Prop), InR R b pre.length a → a.tmps.size = N → a.defers = [] →
    Box w b (pre ++ cs ++ post) e → setAll l cs = some cs' → (∀ a' w', InR R' b pre.length a' → a'.tmps.size = N → a'.defers = [] → Box w' b (pre ++ cs' ++ post) e → Chg (· = b) w w' → Q .normal a' w') → c.wp P Q a w := by
  intro n
  induction n with
  | zero => intro R c l R' h; simp [defR] at h
  | succ n ih =>
    intro R c l R' h a w b pre cs post cs' e Q h0 hN hd hb hs hq
    unfold defR at h
    split at h
    · cases h
      simp only [setAll, Option.some.injEq] at hs
      subst hs
      exact wp_skip (hq a w h0 hN hd hb (Chg.refl _ _))
    · rename_i x y
      split at h
      · rename_i l1 R1 h1
        split at h
        · rename_i l2 R2 h2
          cases h
          rw [setAll_append, Option.bind_eq_some_iff] at hs
          obtain ⟨cs1, hs1, hs2⟩ := hs
          refine wp_seq (ih R x l1 R1 h1 a w b pre cs post cs1 e _ h0 hN hd hb hs1 (fun a' w' h0' hN' hd' hb' hc' => ?_))
          exact ih R1 y l2 _ h2 a' w' b pre cs1 post cs' e Q h0' hN' hd' hb' hs2 (fun a'' w'' h3 h4 h5 h6 h7 => hq a'' w'' h3 h4 h5 h6 (hc'.trans h7))
        · cases h
      · cases h
    · rename_i id ta x y1 p1 f1
      cases hc : outR R ta && Nat.blt ta N with
      | false => rw [hc] at h; cases h
      | true =>
        rw [hc] at h
        simp only [cond_true, Option.some.injEq, Prod.mk.injEq] at h
        obtain ⟨rfl, rfl⟩ := h
        rw [Bool.and_eq_true] at hc
        simp only [setAll, Option.some.injEq] at hs
        subst hs
        refine wp_region_lit (Vn ?_)
        exact hq _ _ (h0.put _ hc.1) ((Xd _ _ _).trans hN) ((YP _ _ _).trans hd) hb (Chg.refl _ _)
    · rename_i id ta r y1 p1 f1 tb a2 y2 p2 f2 tc t b2 f y3 p3 f3 td c2 y4 p4 f4
      cases hc : Nat.beq ta a2 && Nat.beq tb b2 && Nat.beq tc c2 && outR R ta && outR R tb && outR R tc && outR R td && Nat.blt ta N && Nat.blt tb N && Nat.blt tc N && Nat.blt td N with
      | false => rw [hc] at h; cases h
      | true =>
        rw [hc] at h
        simp only [cond_true] at h
        split at h
        · rename_i o off hr ho
          cases h
          simp only [Bool.and_eq_true] at hc
          obtain ⟨⟨⟨⟨⟨⟨⟨⟨⟨⟨g1, g2⟩, g3⟩, g4⟩, g5⟩, g6⟩, g6'⟩, g7⟩, g8⟩, g9⟩, g10⟩ := hc
          have := Ys g1; subst this
          have := Ys g2; subst this
          have := Ys g3; subst this
          simp only [setAll, Option.some.injEq] at hs
          subst hs
          have hr0 := h0 _ (offOf_mem hr)
          refine wp_region_lit (Vn ?_)
          rw [Xf, hr0]
          have sz1 : (a.put (some ta) (.pointer (some ⟨b, pre.length + o, none⟩))).tmps.size = N := (Xd _ _ _).trans hN
          have e1 : gt (a.put (some ta) (.pointer (some ⟨b, pre.length + o, none⟩))) ta = .pointer (some ⟨b, pre.length + o, none⟩) := Yw _ _ _ (by rw [hN]; exact Nat.le_of_ble_eq_true g7)
          have k1 := h0.put (.pointer (some ⟨b, pre.length + o, none⟩)) g4
          have d1 : (a.put (some ta) (.pointer (some ⟨b, pre.length + o, none⟩))).defers = [] := (YP _ _ _).trans hd
          generalize a.put (some ta) (.pointer (some ⟨b, pre.length + o, none⟩)) = a1 at *
          refine VF e1 ?_
          have sz2 : (a1.put (some tb) (.pointer (some ⟨b, pre.length + o, none⟩))).tmps.size = N := (Xd _ _ _).trans sz1
          have e2 : gt (a1.put (some tb) (.pointer (some ⟨b, pre.length + o, none⟩))) tb = .pointer (some ⟨b, pre.length + o, none⟩) := Yw _ _ _ (by rw [sz1]; exact Nat.le_of_ble_eq_true g8)
          have k2 := k1.put (.pointer (some ⟨b, pre.length + o, none⟩)) g5
          have d2 : (a1.put (some tb) (.pointer (some ⟨b, pre.length + o, none⟩))).defers = [] := (YP _ _ _).trans d1
          generalize a1.put (some tb) (.pointer (some ⟨b, pre.length + o, none⟩)) = a2 at *
          refine VQ e2 ho ?_
          rw [YM _ _ rfl]
          have sz3 : (a2.put (some tc) (.pointer (some ⟨b, pre.length + o + off, none⟩))).tmps.size = N := (Xd _ _ _).trans sz2
          have e3 : gt (a2.put (some tc) (.pointer (some ⟨b, pre.length + o + off, none⟩))) tc = .pointer (some ⟨b, pre.length + o + off, none⟩) := Yw _ _ _ (by rw [sz2]; exact Nat.le_of_ble_eq_true g9)
          have k3 := k2.put (.pointer (some ⟨b, pre.length + o + off, none⟩)) g6
          have d3 : (a2.put (some tc) (.pointer (some ⟨b, pre.length + o + off, none⟩))).defers = [] := (YP _ _ _).trans d2
          generalize a2.put (some tc) (.pointer (some ⟨b, pre.length + o + off, none⟩)) = a3 at *
          refine Vt ?_
          rw [Xf, e3]
          refine hq _ _ ?_ ((Xd _ _ _).trans sz3) ((YP _ _ _).trans d3) hb (Chg.refl _ _)
          intro q hq'
          rcases List.mem_cons.1 hq' with rfl | hm
          · rw [Yw _ _ _ (by rw [sz3]; exact Nat.le_of_ble_eq_true g10)]
            simp only [Nat.add_assoc]
          · exact k3.put _ g6' q hm
        · cases h
    · rename_i id ta r y1 p1 f1 tb a2 y2 p2 f2 tc t b2 f y3 p3 f3 ty c2 v y4 p4 f4
      cases hc : Nat.beq ta a2 && Nat.beq tb b2 && Nat.beq tc c2 && outR R ta && outR R tb && outR R tc && Nat.blt ta N && Nat.blt tb N && Nat.blt tc N && XR P ty && v.oneCell' with
      | false => rw [hc] at h; cases h
      | true =>
        rw [hc] at h
        simp only [cond_true] at h
        split at h
        · rename_i o off hr ho
          cases h
          simp only [Bool.and_eq_true] at hc
          obtain ⟨⟨⟨⟨⟨⟨⟨⟨⟨⟨g1, g2⟩, g3⟩, g4⟩, g5⟩, g6⟩, g7⟩, g8⟩, g9⟩, g10⟩, g11⟩ := hc
          have := Ys g1; subst this
          have := Ys g2; subst this
          have := Ys g3; subst this
          have hr0 := h0 _ (offOf_mem hr)
          simp only [setAll] at hs
          cases hlt : Nat.blt (o + off) cs.length with
          | false => rw [hlt] at hs; cases hs
          | true =>
            rw [hlt] at hs
            simp only [cond_true, Option.some.injEq] at hs
            subst hs
            have hoff' : o + off < cs.length := Nat.le_of_ble_eq_true hlt
            refine wp_region_lit (Vn ?_)
            rw [Xf, hr0]
            have sz1 : (a.put (some ta) (.pointer (some ⟨b, pre.length + o, none⟩))).tmps.size = N := (Xd _ _ _).trans hN
            have e1 : gt (a.put (some ta) (.pointer (some ⟨b, pre.length + o, none⟩))) ta = .pointer (some ⟨b, pre.length + o, none⟩) := Yw _ _ _ (by rw [hN]; exact Nat.le_of_ble_eq_true g7)
            have k1 := h0.put (.pointer (some ⟨b, pre.length + o, none⟩)) g4
            have d1 : (a.put (some ta) (.pointer (some ⟨b, pre.length + o, none⟩))).defers = [] := (YP _ _ _).trans hd
            generalize a.put (some ta) (.pointer (some ⟨b, pre.length + o, none⟩)) = a1 at *
            refine VF e1 ?_
            have sz2 : (a1.put (some tb) (.pointer (some ⟨b, pre.length + o, none⟩))).tmps.size = N := (Xd _ _ _).trans sz1
            have e2 : gt (a1.put (some tb) (.pointer (some ⟨b, pre.length + o, none⟩))) tb = .pointer (some ⟨b, pre.length + o, none⟩) := Yw _ _ _ (by rw [sz1]; exact Nat.le_of_ble_eq_true g8)
            have k2 := k1.put (.pointer (some ⟨b, pre.length + o, none⟩)) g5
            have d2 : (a1.put (some tb) (.pointer (some ⟨b, pre.length + o, none⟩))).defers = [] := (YP _ _ _).trans d1
            generalize a1.put (some tb) (.pointer (some ⟨b, pre.length + o, none⟩)) = a2 at *
            refine VQ e2 ho ?_
            rw [YM _ _ rfl]
            have sz3 : (a2.put (some tc) (.pointer (some ⟨b, pre.length + o + off, none⟩))).tmps.size = N := (Xd _ _ _).trans sz2
            have e3 : gt (a2.put (some tc) (.pointer (some ⟨b, pre.length + o + off, none⟩))) tc = .pointer (some ⟨b, pre.length + (o + off), none⟩) := by rw [Yw _ _ _ (by rw [sz2]; exact Nat.le_of_ble_eq_true g9), Nat.add_assoc]
            have k3 := k2.put (.pointer (some ⟨b, pre.length + o + off, none⟩)) g6
            have d3 : (a2.put (some tc) (.pointer (some ⟨b, pre.length + o + off, none⟩))).defers = [] := (YP _ _ _).trans d2
            generalize a2.put (some tc) (.pointer (some ⟨b, pre.length + o + off, none⟩)) = a3 at *
            have hb2 := box_set hb (pre.length + (o + off)) v
            rw [set_mid _ _ _ _ _ hoff'] at hb2
            refine st_store e3 (XJ _ _) g10 g11 (hb.at (List.getElem?_eq_getElem hoff')) (hb.frozen _) (hq _ _ k3 sz3 d3 hb2.1 (Chg.grown hb2.2))
        · cases h
    · cases h
theorem defF_ok {f : Nat} {l : List (Nat × Value)} (h : defF P f = some l) {b : Nat} {pre cs post cs' : List Value} {e : TypeId} (hb : Box w b (pre ++ cs ++ post) e) (hs : setAll l cs = some cs') :
    Ut P f = true ∧ Calls P f #[.pointer (some ⟨b, pre.length, none⟩)] w fun en w' => en = .returned (.tuple #[]) ∧ Box w' b (pre ++ cs' ++ post) e ∧ Chg (· = b) w w' := by
  unfold defF at h
  split at h
  · rename_i fn hfn
    split at h
    · rename_i c hbody
      cases hc : Ut P f && Nat.beq fn.results.size 0 && Nat.blt 0 fn.ntmps with
      | false => rw [hc] at h; cases h
      | true =>
        rw [hc] at h
        simp only [cond_true] at h
        simp only [Bool.and_eq_true] at hc
        obtain ⟨⟨hf, hres⟩, hn⟩ := hc
        have hr : fn.results = #[] := Array.eq_empty_of_size_eq_zero (Ys hres)
        refine ⟨hf, calls_of_wp hfn hbody ?_⟩
        have hn' := Nat.le_of_ble_eq_true hn
        obtain ⟨x, hx, rfl⟩ := Option.map_eq_some_iff.1 h
        refine defR_ok 200 [(0, 0)] c x.1 x.2 hx _ w b pre cs post cs' e _ ?_ ?_ rfl hb hs ?_
        · intro q hq
          simp only [List.mem_cons, List.not_mem_nil, or_false] at hq
          subst hq
          simp only [gt, Array.getD_eq_getD_getElem?, Nat.add_zero]
          rw [Array.getElem?_append_left (by simp)]; rfl
        · simp; omega
        · intro a' w' _ _ hd' hb' hc'
          exact ⟨hd', _, by rw [results_none hr], rfl, hb', hc'⟩
    · cases h
  · cases h
end
end Go.Proofs.YtgjplodgdgaakaaGreatDoor

/- That the reading of code that VV tells the truth: what is put into cells. Over any program. -/
namespace Go.Proofs.YtgjplodgdgaakaaGreatDoor
open Go Go.RowKit

theorem Ve {ok : Nat → Prop} {w : World} : ∀ (cs : List Value), YX ok w (Xj cs) cs
  | [] => rfl
  | v :: cs => ⟨[v], cs, rfl, rfl, Ve cs⟩
theorem knownAll_out : ∀ {l : List (Option Value)} {cs : List Value}, knownAll l = some cs → l = cs.map some
  | [], cs, h => by simp only [knownAll, Option.some.injEq] at h; subst h; rfl
  | some v :: l, cs, h => by
    simp only [knownAll, Option.map_eq_some_iff] at h
    obtain ⟨c, hc, rfl⟩ := h
    rw [knownAll_out hc]; rfl
  | none :: l, cs, h => by simp [knownAll] at h
theorem OutR.step {acts : List Ra} {x : Ra} {ds0 ds ds' : List D} {sst st st' : Option (List UInt8)} (h : OutR acts ds0 sst ds st) (hs : shDs ds' = shDs ds) (k : match st with
    | none => st' = none
    | some s => match rdA x ds s with
      | some y => st' = some y.2 ∧ ds' = y.1
      | none => st' = none) : OutR (acts ++ [x]) ds0 sst ds' st' := by
  refine ⟨hs.trans h.1, ?_⟩
  have h2 := h.2
  cases sst with
  | none =>
    simp only [] at h2 ⊢
    subst h2
    exact k
  | some s =>
    simp only [] at h2 ⊢
    rw [rdAs_append]
    cases hr : rdAs acts ds0 s with
    | none =>
      rw [hr] at h2
      simp only [] at h2
      subst h2
      exact k
    | some y =>
      rw [hr] at h2
      simp only [] at h2
      obtain ⟨rfl, rfl⟩ := h2
      simp only [Option.bind_some, rdAs_one]
      exact k
section
variable {P : Program} {K : Kr} {N g rb sb : Nat} {ev : Value} {k : Nat} {rows : List (Nat × Nat × Nat)} {zs : List (Nat × List Value)} {S : RS} {Ad : List (Nat × Nat)} {R : List Value} {I : List Int} {it : Wi} {sst st0 st : Option (List UInt8)} {a : Act} {w : World}
theorem Jv {ops : Array Oper} {Q : Exit → Act → World → Prop} {rest : List Oper} {x y : Operand} {b off : Nat} {t e ty : TypeId} {pos : String} {aft : Array Edge} {vs seg A C : List Value} {v : Value} (hx : a.eval x = .pointer (some ⟨b, off, none⟩)) (hy : a.eval y = v) (hv : v.cells = vs.toArray) (hsz : Ui P t vs.length = true)
    (h1 : (vs.all fun v => v.oneCell') = true) (hB : Box w b (A ++ seg ++ C) e) (hA : A.length = off) (hl : seg.length = vs.length) (h : ∀ w', Box w' b (A ++ vs ++ C) e → w.grownBy w' (some b) → wpList P ops Q rest (a.put none undef) w') :
    wpList P ops Q (⟨none, .store t x y, ty, pos, aft, none⟩ :: rest) a w := by
  have hst := run_storeCells_at P b off e vs 0 (A ++ seg ++ C).toArray w hB (by simp; omega) (fun u hu => List.all_eq_true.1 h1 u hu)
  simp only [Nat.add_zero] at hst
  have hnew : ((A ++ seg ++ C).toArray.toList.take off ++ vs ++ (A ++ seg ++ C).toArray.toList.drop (off + vs.length)) = A ++ vs ++ C := by
    subst hA
    simp only []
    rw [List.append_assoc A seg C, List.take_left', ← hl, ← List.append_assoc, ← List.length_append, List.drop_left']
    · rfl
    · rfl
  refine VX (o := ⟨none, .store t x y, ty, pos, aft, none⟩) (w' := w.setRow b (A ++ vs ++ C).toArray) rfl ?_ (h _ ?_ ?_)
  · unfold Ui at hsz
    split at hsz
    · rename_i i hi
      have hs := Ys hsz
      simp [execOp, hx, hy, Instr.storeAt, Instr.sureAddr, storeVar, hv, sizeOf, typeInfo, hi, hs, hst]
      simpa using congrArg (fun l : List Value => w.setRow b l.toArray) hnew
    · cases hsz
  · have := setRow_heap w b (A ++ seg ++ C).toArray (A ++ vs ++ C).toArray e (0, 0) hB
    exact this
  · exact ⟨rfl, rfl, rfl, by simp, fun k' _ hk => setRow_other w b k' _ (fun e' => hk (by rw [e']))⟩
end
end Go.Proofs.YtgjplodgdgaakaaGreatDoor

/- That the reading of code that VV tells the truth: rows of operations. Over any program. -/
namespace Go.Proofs.YtgjplodgdgaakaaGreatDoor
open Go Go.RowKit

def Ye5 (ds : List D) : Prop := ∀ d ∈ ds, d.width = 1
theorem unit_len : ∀ {ds : List D}, Ye5 ds → (shDs ds).length = ds.length
  | [], _ => rfl
  | d :: ds, h => by
    have h1 := h d (by simp)
    have h2 := unit_len (ds := ds) (fun x hx => h x (List.mem_cons_of_mem _ hx))
    simp only [shDs, List.length_append, sh_width, h1, List.length_cons]
    omega
theorem VA {ds : List D} (h : Ye5 ds) : pos ds := fun d hd => by rw [h d hd]; omega
theorem Yh6 {ds : List D} (h : Ye5 ds) : D.widths ds = ds.length := by rw [← shs_width, unit_len h]
theorem put_unit {ds new : List D} {off : Nat} {sh : List Ck} (hu : Ye5 ds) (hsh : shDs new = sh) (ht : ((shDs ds).drop off).take sh.length = sh) (hp : 0 < sh.length) :
    ∃ a m b, ds = a ++ m ++ b ∧ a.length = off ∧ m.length = sh.length ∧ shDs m = sh ∧ Ye5 a ∧ Ye5 b ∧ putD ds off new = some (a ++ new ++ b) := by
  have hl := unit_len hu
  have hlen : off + sh.length ≤ ds.length := by
    have := congrArg List.length ht
    rw [List.length_take, List.length_drop, hl] at this
    omega
  have e : ds = ds.take off ++ (ds.drop off).take sh.length ++ (ds.drop off).drop sh.length := by rw [List.append_assoc, List.take_append_drop, List.take_append_drop]
  have la : (ds.take off).length = off := by simp; omega
  have lm : ((ds.drop off).take sh.length).length = sh.length := by simp; omega
  have ua : Ye5 (ds.take off) := fun d hd => hu d (List.mem_of_mem_take hd)
  have um : Ye5 ((ds.drop off).take sh.length) := fun d hd => hu d (List.mem_of_mem_drop (List.mem_of_mem_take hd))
  have ub : Ye5 ((ds.drop off).drop sh.length) := fun d hd => hu d (List.mem_of_mem_drop (List.mem_of_mem_drop hd))
  have hm : shDs ((ds.drop off).take sh.length) = sh := by
    have h1 : shDs ds = shDs (ds.take off) ++ (shDs ((ds.drop off).take sh.length) ++ shDs ((ds.drop off).drop sh.length)) := by
      conv => lhs; rw [e]
      rw [shDs_append, shDs_append, List.append_assoc]
    rw [h1, List.drop_left' (by rw [unit_len ua, la]), List.take_left' (by rw [unit_len um, lm])] at ht
    exact ht
  refine ⟨_, _, _, e, la, lm, hm, ua, ub, ?_⟩
  conv => lhs; rw [e]
  have := Yi2 (a := ds.take off) (m := (ds.drop off).take sh.length) (b := (ds.drop off).drop sh.length) (new := new) (VA ua) (VA um) (hm.trans hsh.symm)
  rw [Yh6 ua, la] at this
  exact this
theorem unsetN_get {cells : List (Option Value)} {off n j : Nat} {v : Value} (h : (JM cells off n)[j]? = some (some v)) (hle : off + n ≤ cells.length) : (j < off ∨ off + n ≤ j) ∧ cells[j]? = some (some v) := by
  unfold JM at h
  have hlt : (cells.take off).length = off := by simp; omega
  by_cases h1 : j < off
  · rw [List.append_assoc, List.getElem?_append_left (by omega), List.getElem?_take, if_pos h1] at h
    exact ⟨.inl h1, h⟩
  · rw [List.append_assoc, List.getElem?_append_right (by omega), hlt] at h
    by_cases h2 : j - off < n
    · rw [List.getElem?_append_left (by simpa using h2), List.getElem?_replicate] at h
      rw [if_pos h2] at h; cases h
    · rw [List.getElem?_append_right (by simp; omega), List.length_replicate, List.getElem?_drop] at h
      rw [show off + n + (j - off - n) = j by omega] at h
      exact ⟨.inr (by omega), h⟩
theorem unsetN_len {cells : List (Option Value)} {off n : Nat} (hle : off + n ≤ cells.length) : (JM cells off n).length = cells.length := by
  unfold JM; simp; omega
section
variable {P : Program} {K : Kr} {N g rb sb : Nat} {ev : Value} {k : Nat} {rows : List (Nat × Nat × Nat)} {zs : List (Nat × List Value)} {S : RS} {Ad : List (Nat × Nat)} {R : List Value} {I : List Int} {it : Wi} {sst st0 st : Option (List UInt8)} {a : Act} {w : World}
/-- A part is put into its cells. -/
theorem putIt (H : RAt N g rb sb ev k rows zs S Ad R I it sst st0 st a w) {ops : Array Oper} {Q : Exit → Act → World → Prop} {rest : List Oper} {x y : Operand} {off : Nat} {t ty : TypeId} {pos : String} {aft : Array Edge} {v : Value} {vs : List Value} {new : List D} {sh : List Ck} {ra : Ra}
    (hx : evW S.A x = some (.at_ k off)) (hy : a.eval y = v) (hv : v.cells.toList = vs) (h1 : (vs.all fun v => v.oneCell') = true) (hrep : YX (Dk sb it.lo w) w new vs) (hun : Ye5 new) (hsh : shDs new = sh) (hp : 0 < sh.length) (hsz : Ui P t sh.length = true)
    (hshp : (S.shp.drop off).take sh.length = sh)
    (hst : match st0 with
      | none => st = none
      | some s => ∀ ds', putD it.ds off new = some ds' → match rdA ra it.ds s with
        | some z => st = some z.2 ∧ ds' = z.1
        | none => st = none)
    (hq : ∀ it' w', it'.b = it.b → it'.lo = it.lo → it'.pre = it.pre → it'.post = it.post → it'.e = it.e → Chg (· = it.b) w w' → RAt N g rb sb ev k rows zs { S with pd := .no, cells := JM S.cells off sh.length, acts := S.acts ++ [ra] } Ad R I it' sst st st (a.put none undef) w' → wpList P ops Q rest (a.put none undef) w') :
    wpList P ops Q (⟨none, .store t x y, ty, pos, aft, none⟩ :: rest) a w := by
  obtain ⟨A, M, C, hds, hA, hM, hshM, uA, uC, hput⟩ := put_unit (new := new) (off := off) (sh := sh) (fun d hd => H.sh.2 d hd) hsh (by rw [H.sh.1]; exact hshp) hp
  have hr := H.ds
  rw [hds] at hr
  rw [List.append_assoc] at hr
  obtain ⟨cA, cr, hcs, hrA, hrr⟩ := (YX.app _ _ _).1 hr
  obtain ⟨cM, cC, hcs2, hrM, hrC⟩ := (YX.app _ _ _).1 hrr
  subst hcs2
  have lA : cA.length = off := by rw [YX.len _ _ hrA, Yh6 uA, hA]
  have lM : cM.length = sh.length := by rw [YX.len _ _ hrM, ← shs_width, hshM]
  have lv : vs.length = sh.length := by rw [YX.len _ _ hrep, ← shs_width, hsh]
  obtain ⟨p, hp1, he⟩ := Yj1 (H.kn.eval hx)
  rw [H.ad] at hp1; cases hp1
  have hbox := H.box
  rw [hcs] at hbox
  have hbox' : Box w it.b ((it.pre ++ cA) ++ cM ++ (cC ++ it.post)) it.e := by
    have : it.pre ++ (cA ++ (cM ++ cC)) ++ it.post = (it.pre ++ cA) ++ cM ++ (cC ++ it.post) := by simp [List.append_assoc]
    rw [← this]; exact hbox
  have hlc : off + sh.length ≤ S.cells.length := by rw [H.cl, hcs]; simp; omega
  refine Jv (v := v) (vs := vs) he hy (by rw [← hv]) (by rw [lv]; exact hsz) h1 hbox' (by simp [lA]) (by rw [lM, lv]) (fun w' hb' hg => ?_)
  have hc : Chg (· = it.b) w w' := Chg.grown hg
  have hs : ∀ j, j = it.b → j < it.lo ∧ j ≠ sb := by rintro j rfl; exact ⟨H.lo.1, H.ne.2.2⟩
  refine hq { it with cs := cA ++ vs ++ cC, ds := A ++ new ++ C } w' rfl rfl rfl rfl rfl hc ⟨⟨H.kn.size, H.kn.defers, H.kn.at_⟩, H.ho, H.last, H.ad, H.lens, H.row, ?_, ?_, ?_, ?_, ?_, ?_, rfl, ?_, ?_, ⟨H.lo.1, H.lo.2.1, H.lo.2.2.1, Nat.le_trans H.lo.2.2.2 hc.size⟩, H.ne, ?_⟩
  · have : it.pre ++ (cA ++ vs ++ cC) ++ it.post = (it.pre ++ cA) ++ vs ++ (cC ++ it.post) := by simp [List.append_assoc]
    show Box w' it.b (it.pre ++ (cA ++ vs ++ cC) ++ it.post) it.e
    rw [this]; exact hb'
  · show YX (Dk sb it.lo w') w' (A ++ new ++ C) (cA ++ vs ++ cC)
    rw [List.append_assoc, List.append_assoc]
    exact (YX.app _ _ _).2 ⟨cA, vs ++ cC, rfl, Dk.up hrA hc hs, (YX.app _ _ _).2 ⟨vs, cC, rfl, Dk.up hrep hc hs, Dk.up hrC hc hs⟩⟩
  · show (JM S.cells off sh.length).length = _
    rw [unsetN_len hlc, H.cl, hcs]
    simp [lv, lM]
  · refine ⟨?_, fun d hd => ?_⟩
    · show shDs (A ++ new ++ C) = S.shp
      rw [← H.sh.1, hds, shDs_append, shDs_append, shDs_append, shDs_append, hsh, hshM]
    · simp only [List.mem_append] at hd
      rcases hd with (h | h) | h
      · exact uA d h
      · exact hun d h
      · exact uC d h
  · intro j u hj
    obtain ⟨hjr, hj2⟩ := unsetN_get hj hlc
    have h3 := H.cells j u hj2
    rw [hcs] at h3
    show (cA ++ vs ++ cC)[j]? = some u
    rcases hjr with hlt | hge
    · rw [List.getElem?_append_left (by omega)] at h3
      rw [List.append_assoc, List.getElem?_append_left (by omega)]; exact h3
    · rw [List.getElem?_append_right (by omega), List.getElem?_append_right (by omega)] at h3
      rw [List.append_assoc, List.getElem?_append_right (by omega), List.getElem?_append_right (by omega)]
      rw [lv, ← lM]; exact h3
  · exact H.rdr.chg hc (fun e => H.ne.2.1 e.symm) (fun e => H.ne.2.2 e.symm)
  · intro he'
    simp at he'
  · refine H.rel.step ?_ ?_
    · show shDs (A ++ new ++ C) = shDs it.ds
      rw [hds, shDs_append, shDs_append, shDs_append, shDs_append, hsh, hshM]
    · cases st0 with
      | none => exact hst
      | some s => exact hst _ hput
  · refine ⟨?_, H.gl.2⟩
    have h1 := H.gl.1
    have hg' : w'.heap[g]? = w.heap[g]? := hc.block g (by have := H.lo.2.2.2; have := H.gl.2.2.1; omega) H.gl.2.2.2
    simp only [World.cell?] at h1 ⊢
    rw [hg']; exact h1
theorem rdA_row (c nb stt : Bool) (off : Nat) (dfl : List Value) (body : List Ra) (ds : List D) (s : List UInt8) : rdA (.row c nb off stt dfl body) ds s = (rowP c nb stt dfl body s).bind fun x => (putD ds off [x.1]).map fun ds' => (ds', x.2) := by
  simp only [rdA, rowP]
  cases lenP c s with
  | none => rfl
  | some x =>
    simp only [Option.bind_some]
    cases VO body (Xj dfl) x.1.toNat x.2 <;> rfl
theorem storeR_ok (H : RAt N g rb sb ev k rows zs S Ad R I it sst st0 st a w) {op : Op} {S1 : RS} (h : storeR P k S op = some S1) {ops : Array Oper} {Q : Exit → Act → World → Prop} {rest : List Oper} {ty : TypeId} {pos : String} {aft : Array Edge}
    (hq : ∀ it' w', it'.b = it.b → it'.lo = it.lo → it'.pre = it.pre → it'.post = it.post → it'.e = it.e → Chg (· = it.b) w w' → RAt N g rb sb ev k rows zs S1 Ad R I it' sst st st (a.put none undef) w' → wpList P ops Q rest (a.put none undef) w') :
    wpList P ops Q (⟨none, op, ty, pos, aft, none⟩ :: rest) a w := by
  unfold storeR at h
  split at h
  · rename_i t x y
    split at h
    · rename_i k' off n hx hy
      cases hk : Nat.beq k k' with
      | false => rw [hk] at h; cases h
      | true =>
        rw [hk] at h
        have := Ys hk; subst this
        simp only [cond_true] at h
        have hyv := H.kn.eval hy
        simp only [VW] at hyv
        have hpd := H.pd
        split at h
        · rename_i p n' hp
          rw [hp] at hpd
          cases hc : Nat.beq n n' && Ui P t (shR p).length && decide ((S.shp.drop off).take (shR p).length = shR p) with
          | false => rw [hc] at h; cases h
          | true =>
            rw [hc] at h
            simp only [cond_true, Option.some.injEq] at h
            subst h
            simp only [Bool.and_eq_true, decide_eq_true_eq] at hc
            have := Ys hc.1.1; subst this
            obtain ⟨v, nd, hv, hrep, h1, _, hsh, hun, hrel⟩ := hpd
            rw [hyv] at hv
            have hp0 : 0 < (shR p).length := by cases p <;> simp [shR]
            refine putIt H hx (by simpa using hv) rfl h1 hrep hun hsh hp0 hc.1.2 hc.2 (ra := .prim p off) ?_ hq
            cases st0 with
            | none => exact hrel
            | some s =>
              intro ds' hput
              simp only [] at hrel
              simp only [rdA]
              split at hrel
              · rename_i x hx'
                obtain ⟨rfl, rfl⟩ := hrel
                rw [hx']
                simp only [Option.bind_some, hput, Option.map_some]
                exact ⟨trivial, trivial⟩
              · rename_i hx'
                rw [hx']; exact hrel
        · rename_i c nb r stt dfl body hp
          rw [hp] at hpd
          cases hc : Nat.beq n r && Ui P t 1 && decide ((S.shp.drop off).take 1 = [.sl]) with
          | false => rw [hc] at h; cases h
          | true =>
            rw [hc] at h
            simp only [cond_true, Option.some.injEq] at h
            subst h
            simp only [Bool.and_eq_true, decide_eq_true_eq] at hc
            have := Ys hc.1.1; subst this
            obtain ⟨v, d, hv, hcell, h1, hrep, hsh, hrel⟩ := hpd
            rw [hyv] at hv
            have hw1 : d.width = 1 := by rw [← sh_width, hsh]; rfl
            refine putIt H hx (by simpa using hv) (vs := [v]) (by rw [hcell]) (by simp [h1]) (new := [d]) (sh := [.sl]) ⟨[v], [], rfl, hrep, rfl⟩ (fun x hx => by simp at hx; subst hx; exact hw1) (by simp [shDs, hsh]) (by simp) hc.1.2 hc.2 (ra := .row c nb off stt dfl body) ?_ hq
            cases st0 with
            | none => exact hrel
            | some s =>
              intro ds' hput
              simp only [] at hrel
              rw [rdA_row]
              split at hrel
              · rename_i x hx'
                obtain ⟨rfl, rfl⟩ := hrel
                rw [hx']
                simp only [Option.bind_some, hput, Option.map_some]
                exact ⟨trivial, trivial⟩
              · rename_i hx'
                rw [hx']; exact hrel
        · rename_i n' hp
          rw [hp] at hpd
          cases hc : Nat.beq n n' && Ui P t 1 && decide ((S.shp.drop off).take 1 = [.mp]) with
          | false => rw [hc] at h; cases h
          | true =>
            rw [hc] at h
            simp only [cond_true, Option.some.injEq] at h
            subst h
            simp only [Bool.and_eq_true, decide_eq_true_eq] at hc
            have := Ys hc.1.1; subst this
            obtain ⟨m, u, hv, h1, hrep, hrel⟩ := hpd
            rw [hyv] at hv
            refine putIt H hx (by simpa using hv) (vs := [m]) rfl (by simp [h1]) (new := [Uz u]) (sh := [.mp]) ⟨[m], [], rfl, hrep, rfl⟩ (fun x hx => by simp at hx; subst hx; rfl) rfl (by simp) hc.1.2 hc.2 (ra := .tags off) ?_ hq
            cases st0 with
            | none => exact hrel
            | some s =>
              intro ds' hput
              simp only [Yk2] at hrel
              simp only [rdA]
              split at hrel
              · rename_i x hx'
                obtain ⟨rfl, rfl⟩ := hrel
                rw [hx']
                simp only [Option.bind_some, hput, Option.map_some]
                exact ⟨trivial, trivial⟩
              · rename_i hx'
                rw [hx']; exact hrel
        · cases h
    · cases h
  · cases h
/-- The defaults are set. -/
theorem dfltR_ok (H : RAt N g rb sb ev k rows zs S Ad R I it sst st0 st a w) {op : Op} {S1 : RS} (h : dfltR P k S op = some S1) {ops : Array Oper} {Q : Exit → Act → World → Prop} {rest : List Oper} {t : Nat} {ty : TypeId} {pos : String} {aft : Array Edge}
    (hq : ∀ it' w', it'.b = it.b → it'.lo = it.lo → it'.pre = it.pre → it'.post = it.post → it'.e = it.e → Chg (· = it.b) w w' → RAt N g rb sb ev k rows zs { S1 with A := Vd S1.A t } Ad R I it' sst st0 st (a.put (some t) (.tuple #[])) w' → wpList P ops Q rest (a.put (some t) (.tuple #[])) w') :
    wpList P ops Q (⟨some t, op, ty, pos, aft, none⟩ :: rest) a w := by
  unfold dfltR at h
  split at h
  · rename_i f x _
    split at h
    · rename_i k' hx hpd hact
      cases hk : Nat.beq k k' with
      | false => rw [hk] at h; cases h
      | true =>
        rw [hk] at h
        have := Ys hk; subst this
        simp only [cond_true] at h
        split at h
        · rename_i l cs hl hcs
          simp only [Option.bind_eq_some_iff] at h
          obtain ⟨cs', hset, h⟩ := h
          cases hdec : decide (shDs (Xj cs') = S.shp) with
          | false => rw [hdec] at h; cases h
          | true =>
            rw [hdec] at h
            simp only [cond_true, Option.some.injEq] at h
            subst h
            have hshp := of_decide_eq_true hdec
            have hkn := knownAll_out hcs
            have hitcs : it.cs = cs := by
              apply List.ext_getElem?
              intro j
              have hlen : it.cs.length = cs.length := by have := H.cl; rw [hkn] at this; simpa using this.symm
              by_cases hj : j < cs.length
              · have h1 := H.cells j cs[j] (by rw [hkn]; simp [hj])
                rw [h1, List.getElem?_eq_getElem hj]
              · rw [List.getElem?_eq_none (by omega), List.getElem?_eq_none (by omega)]
            obtain ⟨p, hp1, he⟩ := Yj1 (H.kn.eval hx)
            rw [H.ad] at hp1; cases hp1
            have hbox := H.box
            rw [hitcs] at hbox
            obtain ⟨hf, hcall⟩ := defF_ok hl hbox hset
            refine VU hf ?_
            have e : (#[x] : Array Operand).map a.eval = #[.pointer (some ⟨it.b, it.pre.length, none⟩)] := by simp [he]
            rw [e]
            refine hcall.mono (fun e w' he => ?_)
            obtain ⟨rfl, hb', hc⟩ := he
            have hs : ∀ j, j = it.b → j < it.lo ∧ j ≠ sb := by rintro j rfl; exact ⟨H.lo.1, H.ne.2.2⟩
            have hpd' := H.pd
            rw [hpd] at hpd'
            refine ⟨_, rfl, hq { it with cs := cs', ds := Xj cs' } w' rfl rfl rfl rfl rfl hc ⟨H.kn.putOff _, H.ho, H.last, H.ad, H.lens, H.row, hb', Ve _, ?_, ⟨hshp, ?_⟩, ?_, H.rdr.chg hc (fun e => H.ne.2.1 e.symm) (fun e => H.ne.2.2 e.symm), ?_, fun _ => ⟨rfl, rfl⟩, ?_, ⟨H.lo.1, H.lo.2.1, H.lo.2.2.1, Nat.le_trans H.lo.2.2.2 hc.size⟩, H.ne, ?_⟩⟩
            · simp
            · intro d hd
              simp only [Xj, List.mem_map] at hd
              obtain ⟨v, _, rfl⟩ := hd
              rfl
            · intro j u hj
              simpa using hj
            · show PdOk sb it.lo w' R _ _ zs st0 st S.pd
              rw [hpd]; exact hpd'
            · have hrel := H.rel
              rw [hact] at hrel
              show OutR S.acts (Xj cs') sst (Xj cs') st0
              rw [hact]
              refine ⟨rfl, ?_⟩
              have h2 := hrel.2
              cases sst with
              | none => exact h2
              | some s =>
                simp only [rdAs] at h2 ⊢
                exact ⟨h2.1, trivial⟩
            · refine ⟨?_, H.gl.2⟩
              have h1 := H.gl.1
              have hg' : w'.heap[g]? = w.heap[g]? := hc.block g (by have := H.lo.2.2.2; have := H.gl.2.2.1; omega) H.gl.2.2.2
              simp only [World.cell?] at h1 ⊢
              rw [hg']; exact h1
        · cases h
    · cases h
  · cases h
end
end Go.Proofs.YtgjplodgdgaakaaGreatDoor

/- That the reading of code that VV tells the truth: rows of operations, short pieces. Over any program. -/
namespace Go.Proofs.YtgjplodgdgaakaaGreatDoor
open Go Go.RowKit

/-- What stays from one point to a later one. -/
structure Fr (rb : Nat) (it it' : Wi) (R R' : List Value) (w w' : World) : Prop where
  b : it'.b = it.b
  lo : it'.lo = it.lo
  pre : it'.pre = it.pre
  post : it'.post = it.post
  e : it'.e = it.e
  chg : Chg (fun j => j = rb ∨ j = it.b ∨ it.lo ≤ j) w w'
  more : ∃ X, R' = R ++ X
theorem Fr.refl (rb : Nat) (it : Wi) (R : List Value) (w : World) : Fr rb it it R R w w := ⟨rfl, rfl, rfl, rfl, rfl, Chg.refl _ _, [], by simp⟩
theorem Fr.trans {rb : Nat} {x y z : Wi} {R R' R'' : List Value} {w w' w'' : World} (h : Fr rb x y R R' w w') (k : Fr rb y z R' R'' w' w'') : Fr rb x z R R'' w w'' := by
  obtain ⟨X, hX⟩ := h.more
  obtain ⟨Y, hY⟩ := k.more
  refine ⟨k.b.trans h.b, k.lo.trans h.lo, k.pre.trans h.pre, k.post.trans h.post, k.e.trans h.e, h.chg.trans (k.chg.wide (fun j hj => by rw [h.b, h.lo] at hj; exact hj)), X ++ Y, by rw [hY, hX, List.append_assoc]⟩
section
variable {P : Program} {K : Kr} {N g rb sb : Nat} {ev : Value} {k : Nat} {rows : List (Nat × Nat × Nat)} {zs : List (Nat × List Value)} {S : RS} {Ad : List (Nat × Nat)} {R : List Value} {I : List Int} {it : Wi} {sst st0 st : Option (List UInt8)} {a : Act} {w : World}
theorem RAt.slot (H : RAt N g rb sb ev k rows zs S Ad R I it sst st0 st a w) {A : WA} {a' : Act} (kn : KnW N rb a' A Ad R I) : RAt N g rb sb ev k rows zs { S with A := A } Ad R I it sst st0 st a' w :=
  ⟨kn, H.ho, H.last, H.ad, H.lens, H.row, H.box, H.ds, H.cl, H.sh, H.cells, H.rdr, H.pd, H.fresh, H.rel, H.lo, H.ne, H.gl⟩
theorem guardR_ok {full : List Oper} {A : WA} {j : Nat} {b : Bool} (kn : KnW N rb a A Ad R I) (h : guardR full A j = some b) : yielded full.toArray a.tmps j = some b := by
  unfold guardR at h
  split at h
  · rename_i t ht
    split at h
    · rename_i b' hb
      cases h
      have h1 := kn.at_ t _ hb
      simp only [VW, Option.some.injEq] at h1
      have h2 : gt a t = .bool b := h1.symm
      simp only [gt] at h2
      unfold yielded
      have : (full.toArray[j]?).bind (·.dst) = some t := by simpa using ht
      rw [this]
      simp only [Option.bind_some]
      cases h3 : a.tmps[t]? with
      | none => rw [Array.getD_eq_getD_getElem?, h3] at h2; simp [undef] at h2
      | some v => rw [Array.getD_eq_getD_getElem?, h3] at h2; simp at h2; subst h2; rfl
    · cases h
  · cases h
theorem KnW.know {A : WA} (h : KnW N rb a A Ad R I) {t : Nat} {s : Wd} (e : VW rb Ad R I s = some (gt a t)) : KnW N rb a ((t, s) :: A) Ad R I := by
  refine ⟨h.size, h.defers, fun u s' e' => ?_⟩
  simp only [lkW] at e'
  cases hb : Nat.beq t u with
  | true => rw [hb] at e'; simp at e'; subst e'; rw [← Ys hb]; exact e
  | false => rw [hb] at e'; exact h.at_ u s' e'
/-- Another point: blocks of the call's own were made, a slot tells of one more thing. -/
theorem RAt.next (H : RAt N g rb sb ev k rows zs S Ad R I it sst st0 st a w) {A : WA} {t : Nat} {h : Hi} {pd : Pd} {zs' : List (Nat × List Value)} {v : Value} {w' : World} {a' : Act} (hc : Chg (fun _ => False) w w') (hv : HiV R v h) (hl : LastV ev st v h) (hkn : KnW N rb a' A Ad R I) (hgt : gt a' t = v)
    (hpd : PdOk sb it.lo w' (R ++ [v]) it.ds it.cs zs' st0 st pd) : RAt N g rb sb ev k rows zs' { (({ S with A := A } : RS).new t h) with pd := pd } Ad (R ++ [v]) I it sst st0 st a' w' := by
  have hs : ∀ j : Nat, False → j < it.lo ∧ j ≠ sb := fun j h => h.elim
  refine ⟨?_, H.ho.give hv, last_give H.ho.1 hl, H.ad, H.lens, ?_, H.box.chg hc id, Dk.up H.ds hc hs, H.cl, H.sh, H.cells, H.rdr.chg hc id id, hpd, H.fresh, H.rel, ⟨H.lo.1, H.lo.2.1, H.lo.2.2.1, Nat.le_trans H.lo.2.2.2 hc.size⟩, H.ne, ?_⟩
  · have := (hkn.more [v]).know (t := t) (s := .res R.length) (by simp [VW, hgt])
    rw [H.ho.1] at this
    exact this
  · intro q rest hq hk
    obtain ⟨n, cap, j, h1, h2⟩ := H.row q rest hq hk
    exact ⟨n, cap, j, Xa h1, h2⟩
  · refine ⟨?_, H.gl.2⟩
    have h1 := H.gl.1
    have hg : w'.heap[g]? = w.heap[g]? := hc.block g (by have := H.lo.2.2.2; have := H.gl.2.2.1; omega) id
    simp only [World.cell?] at h1 ⊢
    rw [hg]; exact h1
theorem Uf (w : World) (o : Obj) (S : Nat → Prop) : Chg S w (w.alloc o) := Chg.grown0 (Vl w o)
theorem VL (w : World) (S : Nat → Prop) : Chg S w w.drew := Chg.grown0 (Jd w none)
theorem agg_of {v : Value} (h : v.cells.size = 16) : v = .agg v.cells := by
  cases v <;> first | rfl | (simp [Value.cells] at h)
theorem uuid_size {sb lo : Nat} {w : World} {v : Value} {nd : List D} {st0 st : Option (List UInt8)} (h : YX (Dk sb lo w) w nd v.cells.toList) (hr : Yd9 .uuid st0 nd st) : v.cells.size = 16 := by
  have h1 := YX.len _ _ h
  rw [← shs_width, hr.1] at h1
  simpa [shR] using h1
theorem varA_ok (H : RAt N g rb sb ev k rows zs S Ad R I it sst st0 st a w) {l : List Oper} {x : RS × List Oper} (hx : varA P N S l = some x) {ops : Array Oper} {Q : Exit → Act → World → Prop}
    (hq : ∀ v a' w', Chg (fun _ => False) w w' → RAt N g rb sb ev k rows zs x.1 Ad (R ++ [v]) I it sst st0 st a' w' → wpList P ops Q x.2 a' w') : wpList P ops Q l a w := by
  unfold varA at hx
  split at hx
  · rename_i u t y1 p1 f1 t2 u2 xx y2 p2 f2 r
    split at hx
    · rename_i n n' hpd hlk
      cases hc : Nat.beq n n' && Nat.beq u u2 && !Nat.beq u xx && Nat.blt u N && z16 P t && Ui P t2 16 with
      | false => rw [hc] at hx; cases hx
      | true =>
        rw [hc] at hx
        simp only [cond_true, Option.some.injEq] at hx
        subst hx
        simp only [Bool.and_eq_true] at hc
        obtain ⟨⟨⟨⟨⟨g1, g2⟩, g3⟩, g4⟩, g5⟩, g6⟩ := hc
        have := Ys g1; subst this
        have := Ys g2; subst this
        have g3' : u ≠ xx := by intro e; subst e; simp [Nat.beq_refl] at g3
        have hp := H.pd
        rw [hpd] at hp
        obtain ⟨v, nd, hv, hreps, hone, _, hrel⟩ := hp
        have hsz := uuid_size hreps hrel
        have hx0 : gt a xx = v := by
          have h1 := H.kn.at_ xx _ hlk
          simp only [VW, hv, Option.some.injEq] at h1
          exact h1.symm
        obtain ⟨z, hz, hzs⟩ : ∃ z : Array Value, (zeroValue t).run P w = .ok (.agg z) w ∧ z.size = 16 := by
          unfold z16 at g5
          split at g5
          · rename_i i hi
            split at g5
            · rename_i z hz; exact ⟨z, by simp [zeroValue, typeInfo, hi, hz], Ys g5⟩
            · cases g5
          · cases g5
        refine YS (o := ⟨some u, .alloc t, y1, p1, f1, none⟩) (v := .pointer (some ⟨w.heap.size, 0, none⟩)) (w' := w.alloc (.cells z t)) rfl (by simp [execOp, Instr.alloc, hz, newVar, newRow, Value.cells]) ?_
        have hal := Uf w (.cells z t) (fun _ => False)
        have hbox : Box (w.alloc (.cells z t)) w.heap.size ([] ++ z.toList ++ []) t := by simpa using VN w z.toList t
        have hb : u < a.tmps.size := by rw [H.kn.size]; exact Nat.le_of_ble_eq_true g4
        have e1 : (a.put (some u) (.pointer (some ⟨w.heap.size, 0, none⟩))).eval (.tmp u) = .pointer (some ⟨w.heap.size, 0, none⟩) := by rw [Xf, Yw _ _ _ hb]
        have e2 : (a.put (some u) (.pointer (some ⟨w.heap.size, 0, none⟩))).eval (.tmp xx) = v := by rw [Xf, Yy _ _ _ _ (fun e => g3' e.symm)]; exact hx0
        refine Jv e1 e2 (vs := v.cells.toList) rfl (by rw [Array.length_toList, hsz]; exact g6) hone hbox rfl (by rw [Array.length_toList, Array.length_toList, hsz, hzs]) (fun w' hb' hg' => ?_)
        have hch : Chg (fun _ => False) w w' := ⟨hg'.os.trans hal.os, hg'.tape.trans hal.tape, hg'.output.trans hal.output, Nat.le_trans hal.size hg'.size, fun j hj hn => (hg'.block j (by have := hal.size; omega) (fun e => by simp only [Option.some.injEq] at e; omega)).trans (hal.block j hj hn)⟩
        have hs : ∀ j : Nat, False → j < it.lo ∧ j ≠ sb := fun j h => h.elim
        rw [put_none]
        refine hq (.pointer (some ⟨w.heap.size, 0, none⟩)) _ w' hch (H.next (A := Vd S.A u) (t := u) (h := .vr) (pd := .vr n S.H.length) (zs' := zs) hch trivial trivial (H.kn.putOff _) (Yw _ _ _ hb) ?_)
        refine ⟨v, nd, w.heap.size, t, Xa hv, Dk.up hreps hch hs, hone, hrel, ?_, by simpa using hb', H.lo.2.2.2⟩
        rw [← H.ho.1]; simp
    · cases hx
  · cases hx
theorem varL_ok (H : RAt N g rb sb ev k rows zs S Ad R I it sst st0 st a w) {op : Op} {x : Nat × RS} (hx : varL P S op = some x) {d : Nat} (hd : Nat.blt d N = true) {ops : Array Oper} {Q : Exit → Act → World → Prop} {rest : List Oper} {ty : TypeId} {pos : String} {aft : Array Edge}
    (hq : ∀ v, RAt N g rb sb ev k rows zs { x.2 with A := (d, .res x.1) :: x.2.A } Ad R I it sst st0 st (a.put (some d) v) w → wpList P ops Q rest (a.put (some d) v) w) : wpList P ops Q (⟨some d, op, ty, pos, aft, none⟩ :: rest) a w := by
  unfold varL at hx
  split at hx
  · rename_i t u
    split at hx
    · rename_i n m m' hpd hlk
      cases hc : Nat.beq m m' && agg16 P t with
      | false => rw [hc] at hx; cases hx
      | true =>
        rw [hc] at hx
        simp only [cond_true, Option.some.injEq] at hx
        subst hx
        simp only [Bool.and_eq_true] at hc
        have := Ys hc.1; subst this
        have hp := H.pd
        rw [hpd] at hp
        obtain ⟨v, nd, ub, e, hv, hreps, hone, hrel, hm, hbox, hub⟩ := hp
        have hsz := uuid_size hreps hrel
        have hx0 : a.eval (.tmp u) = .pointer (some ⟨ub, 0, none⟩) := by
          have h1 := H.kn.at_ u _ hlk
          simp only [VW, hm, Option.some.injEq] at h1
          exact h1.symm
        have h16 : Us P t = some v.cells.toList.length := by
          have h2 := hc.2
          unfold agg16 at h2
          split at h2
          · rename_i k hk; rw [hk, Ys h2, Array.length_toList, hsz]
          · cases h2
        refine Jl hx0 h16 (fun j y hj => by rw [YM _ _ rfl]; exact hbox.cell0 hj) ?_
        have hv2 : (.agg v.cells.toList.toArray : Value) = v := by rw [Array.toArray_toList]; exact (agg_of hsz).symm
        rw [hv2]
        refine hq v ?_
        have hk := H.kn.put (t := d) (s := .res n) (v := v) hv hd
        refine ⟨hk, H.ho, H.last, H.ad, H.lens, H.row, H.box, H.ds, H.cl, H.sh, H.cells, H.rdr, ?_, H.fresh, H.rel, H.lo, H.ne, H.gl⟩
        exact ⟨v, nd, hv, hreps, hone, fun h => absurd h (by decide), hrel⟩
    · cases hx
  · cases hx
theorem opsR_ok (hK : KrOk P K g ev) {full : List Oper} : ∀ (n : Nat) (l : List Oper) {S S' : RS} {R : List Value} {it : Wi} {st0 st : Option (List UInt8)} {a : Act} {w : World} {Q : Exit → Act → World → Prop}, Yl5 K P N k rows full n S l = some S' → RAt N g rb sb ev k rows zs S Ad R I it sst st0 st a w →
    (∀ R' it' st0' st' a' w', Fr rb it it' R R' w w' → RAt N g rb sb ev k rows zs S' Ad R' I it' sst st0' st' a' w' → Q .normal a' w') → wpList P full.toArray Q l a w := by
  intro n
  induction n with
  | zero =>
    intro l S S' R it st0 st a w Q h H hq
    cases l with
    | nil =>
      simp only [Yl5, Option.some.injEq] at h
      subst h
      exact hq R it st0 st a w (Fr.refl _ _ _ _) H
    | cons o l => simp [Yl5] at h
  | succ n ih =>
    intro l S S' R it st0 st a w Q h H hq
    cases l with
    | nil =>
      simp only [Yl5, Option.some.injEq] at h
      subst h
      exact hq R it st0 st a w (Fr.refl _ _ _ _) H
    | cons o l =>
      simp only [Yl5] at h
      split at h
      · rename_i x hx
        refine varA_ok H hx (fun v a' w' hc H' => ?_)
        exact ih x.2 h H' (fun R' it' st0' st'' a'' w'' hf H'' => hq R' it' st0' st'' a'' w'' (Fr.trans ⟨rfl, rfl, rfl, rfl, rfl, hc.wide (fun _ h => h.elim), [v], rfl⟩ hf) H'')
      split at h
      · rename_i dd op ty pos aft j want _
        cases hd : Nat.blt dd N with
        | false => rw [hd] at h; cases h
        | true =>
          rw [hd] at h
          simp only [cond_true] at h
          split at h
          · rename_i b hb
            refine Ye8 (guardR_ok H.kn hb) (fun e => ?_) (fun e => ?_)
            · rw [e] at h
              simp only [beq_self_eq_true, cond_true] at h
              exact ih _ h H hq
            · have hne : (b == want) = false := by simpa using e
              rw [hne] at h
              simp only [cond_false] at h
              exact ih l h (H.slot (H.kn.putOff undef)) hq
          · cases h
      · rename_i dd op ty pos aft _
        cases hd : Nat.blt dd N with
        | false => rw [hd] at h; cases h
        | true =>
          rw [hd] at h
          simp only [cond_true] at h
          split at h
          · rename_i x hx
            obtain ⟨v, hm, hp⟩ := lookR_ok H hx
            exact hp full.toArray Q l (some dd) ty pos aft (ih l h (H.slot (H.kn.put hm hd)) hq)
          · split at h
            · rename_i x hx
              obtain ⟨v, hm, hp⟩ := elemR_ok H hx
              exact hp full.toArray Q l (some dd) ty pos aft (ih l h (H.slot (H.kn.put hm hd)) hq)
            · split at h
              · rename_i x hx
                refine giveR_ok hK H (h := x.1) (pd := x.2) hx hd (fun v w' st' hc H' => ?_)
                exact ih l h H' (fun R' it' st0' st'' a' w'' hf H'' => hq R' it' st0' st'' a' w'' (Fr.trans ⟨rfl, rfl, rfl, rfl, rfl, hc.wide (fun j hj => .inl hj), [v], rfl⟩ hf) H'')
              · split at h
                · rename_i S1 hx
                  refine dfltR_ok H hx (fun it1 w' e1 e2 e3 e4 e5 hc H' => ?_)
                  exact ih l h H' (fun R' it' st0' st'' a' w'' hf H'' => hq R' it' st0' st'' a' w'' (Fr.trans ⟨e1, e2, e3, e4, e5, hc.wide (fun j hj => .inr (.inl hj)), [], by simp⟩ hf) H'')
                · split at h
                  · rename_i x hx
                    exact varL_ok H hx hd (fun v H' => ih l h H' hq)
                  · cases h
      · rename_i op ty pos aft _
        split at h
        · rename_i S1 hx
          refine storeR_ok H hx (fun it1 w' e1 e2 e3 e4 e5 hc H' => ?_)
          exact ih l h H' (fun R' it' st0' st'' a' w'' hf H'' => hq R' it' st0' st'' a' w'' (Fr.trans ⟨e1, e2, e3, e4, e5, hc.wide (fun j hj => .inr (.inl hj)), [], by simp⟩ hf) H'')
        · cases h
      · cases h
/-- Where the reader is not well the function ends with the error. -/
def Bad (N g rb : Nat) (ev : Value) (rs : Nat) (it : Wi) (w : World) (a' : Act) (w' : World) : Prop := a'.defers = [] ∧ gt a' rs = ev ∧ Chg (fun j => j = rb ∨ j = it.b ∨ it.lo ≤ j) w w' ∧ a'.tmps.size = N ∧ w'.cell? ⟨g, 0, none⟩ = some ev
theorem badR_ok (hK : KrOk P K g ev) (H : RAt N g rb sb ev k rows zs S Ad R I it sst st0 st a w) {rs : Nat} {c : Code} (h : badR K P N rs S c = true) (hst : st = none) {Q : Exit → Act → World → Prop} (hq : ∀ a' w', Bad N g rb ev rs it w a' w' → Q .ret a' w') : c.wp P Q a w := by
  unfold badR at h
  split at h
  · rename_i id ta f x y0 y1 p1 f1 tb a2 y2 p2 f2
    simp only [Bool.and_eq_true] at h
    obtain ⟨⟨⟨⟨⟨⟨h1, h2⟩, h3⟩, h4⟩, h5⟩, h6⟩, h7⟩ := h
    have := Ys h1; subst this
    have := Ys h3; subst this
    have := Ys h4; subst this
    have hx : evW S.A x = some .rdr := by
      unfold isRdr at h7
      split at h7
      · assumption
      · cases h7
    have ex : a.eval x = .pointer (some ⟨rb, 0, none⟩) := by have := H.kn.eval hx; simp only [VW, Option.some.injEq] at this; exact this.symm
    refine wp_seq (wp_region_lit (VU h2 ?_))
    have e : (#[x] : Array Operand).map a.eval = #[.pointer (some ⟨rb, 0, none⟩)] := by simp [ex]
    rw [e]
    refine (hK.comp h2 w rb sb st H.rdr H.gl.1).mono (fun e w' he => ?_)
    obtain ⟨rfl, rfl⟩ := he
    refine ⟨_, rfl, Vt ?_⟩
    subst hst
    rw [Xf, Yw _ _ _ (by rw [H.kn.size]; exact Nat.le_of_ble_eq_true h5)]
    refine wp_ret (hq _ _ ⟨?_, ?_, Chg.refl _ _, ?_, H.gl.1⟩)
    · rw [YP, YP]; exact H.kn.defers
    · rw [Yw _ _ _ (by rw [Xd, H.kn.size]; exact Nat.le_of_ble_eq_true h6)]; rfl
    · rw [Xd, Xd]; exact H.kn.size
  · cases h
end
end Go.Proofs.YtgjplodgdgaakaaGreatDoor

/- Where what was read so far does not come to an end well, nothing behind mends it. No program in sight. -/
namespace Go.Proofs.YtgjplodgdgaakaaGreatDoor
open Go Go.RowKit

/-- What was done so far, and what is under way, falls short of these octets. -/
def XU (S : RS) (s : List UInt8) : Prop :=
  ∀ x, rdAs S.acts (Xj S.dfl) s = some x → match S.pd with
    | .no => False
    | .rd p _ => rdP p x.2 = none
    | .len c _ _ => lenP c x.2 = none
    | .ok c _ _ => lenP c x.2 = none
    | .made c _ _ _ => lenP c x.2 = none
    | .done c nb _ st dfl body => rowP c nb st dfl body x.2 = none
    | .tg _ => tagsP x.2 = none
    | .vr _ _ => rdP .uuid x.2 = none
theorem XU.same {S S' : RS} {s : List UInt8} (h : XU S s) (h1 : S'.acts = S.acts) (h2 : S'.dfl = S.dfl) (h3 : S'.pd = S.pd) : XU S' s := by
  unfold XU at *
  rw [h1, h2, h3]; exact h
theorem Yh3 {acts : List Ra} {ra : Ra} {ds0 : List D} {s : List UInt8} (h : ∀ x, rdAs acts ds0 s = some x → rdA ra x.1 x.2 = none) : rdAs (acts ++ [ra]) ds0 s = none := by
  rw [rdAs_append]
  cases hr : rdAs acts ds0 s with
  | none => rfl
  | some x => simp only [Option.bind_some, rdAs_one]; exact h x hr
section
variable {P : Program} {K : Kr} {N rs : Nat}
theorem giveR_fails {S : RS} {op : Op} {x : Hi × Pd} {t : Nat} {s : List UInt8} (h : giveR K P S op = some x) (hf : XU S s) : XU { (S.new t x.1) with pd := x.2 } s := by
  have none_of : S.pd = .no → rdAs S.acts (Xj S.dfl) s = none := by
    intro hp
    cases hr : rdAs S.acts (Xj S.dfl) s with
    | none => rfl
    | some y => have := hf y hr; rw [hp] at this; exact absurd this (by simp)
  have vac : S.pd = .no → XU { (S.new t x.1) with pd := x.2 } s := by
    intro hp y hy
    have h0 := none_of hp
    have hy' : rdAs S.acts (Xj S.dfl) s = some y := hy
    rw [h0] at hy'; cases hy'
  have keep : x.2 = S.pd → XU { (S.new t x.1) with pd := x.2 } s := fun e => hf.same rfl rfl e
  unfold giveR at h
  split at h
  · cases hb : Ut P _ with
    | false => rw [hb] at h; cases h
    | true =>
      rw [hb] at h
      simp only [cond_true] at h
      split at h
      · split at h
        · rename_i hp
          exact vac hp
        · rename_i c n z hp
          cases hb2 : Nat.beq _ K.ok with
          | false => rw [hb2] at h; cases h
          | true =>
            rw [hb2] at h
            simp only [cond_true, Option.some.injEq] at h
            refine keep ?_
            rw [← h, hp]
        · cases h
      · cases h
  · split at h
    · rename_i n _
      split at h
      · cases hb2 : Nat.beq (n + 1) S.H.length with
        | false => rw [hb2] at h; cases h
        | true =>
          rw [hb2] at h
          simp only [cond_true, Option.some.injEq] at h
          exact keep (by rw [← h])
      · cases h
    · cases h
  · split at h
    · split at h
      · simp only [Option.some.injEq] at h
        exact keep (by rw [← h])
      · cases h
    · cases h
  · split at h
    · split at h
      · simp only [Option.some.injEq] at h
        exact keep (by rw [← h])
      · cases h
    · cases h
  · cases h
theorem storeR_fails {k : Nat} {S S1 : RS} {op : Op} {s : List UInt8} (h : storeR P k S op = some S1) (hf : XU S s) : XU S1 s := by
  unfold storeR at h
  split at h
  · rename_i t x y
    split at h
    · rename_i k' off n _ _
      cases hb : Nat.beq k k' with
      | false => rw [hb] at h; cases h
      | true =>
        rw [hb] at h
        simp only [cond_true] at h
        split at h
        · rename_i p n' hp
          cases hc : Nat.beq n n' && Ui P t (shR p).length && decide ((S.shp.drop off).take (shR p).length = shR p) with
          | false => rw [hc] at h; cases h
          | true =>
            rw [hc] at h
            simp only [cond_true, Option.some.injEq] at h
            subst h
            intro x hx
            exfalso
            have := Yh3 (ra := .prim p off) (fun y hy => by have h1 := hf y hy; rw [hp] at h1; simp only [] at h1; simp only [rdA, h1, Option.bind_none]) (acts := S.acts) (ds0 := Xj S.dfl) (s := s)
            exact absurd (hx.symm.trans this) (by simp)
        · rename_i c nb r st dfl body hp
          cases hc : Nat.beq n r && Ui P t 1 && decide ((S.shp.drop off).take 1 = [.sl]) with
          | false => rw [hc] at h; cases h
          | true =>
            rw [hc] at h
            simp only [cond_true, Option.some.injEq] at h
            subst h
            intro x hx
            exfalso
            have := Yh3 (ra := .row c nb off st dfl body) (fun y hy => by have h1 := hf y hy; rw [hp] at h1; simp only [] at h1; rw [rdA_row, h1]; rfl) (acts := S.acts) (ds0 := Xj S.dfl) (s := s)
            exact absurd (hx.symm.trans this) (by simp)
        · rename_i n' hp
          cases hc : Nat.beq n n' && Ui P t 1 && decide ((S.shp.drop off).take 1 = [.mp]) with
          | false => rw [hc] at h; cases h
          | true =>
            rw [hc] at h
            simp only [cond_true, Option.some.injEq] at h
            subst h
            intro x hx
            exfalso
            have := Yh3 (ra := .tags off) (fun y hy => by have h1 := hf y hy; rw [hp] at h1; simp only [] at h1; simp only [rdA, h1, Option.bind_none]) (acts := S.acts) (ds0 := Xj S.dfl) (s := s)
            exact absurd (hx.symm.trans this) (by simp)
        · cases h
    · cases h
  · cases h
theorem dfltR_fails {k : Nat} {S S1 : RS} {op : Op} {s : List UInt8} (h : dfltR P k S op = some S1) (hf : XU S s) : False := by
  unfold dfltR at h
  split at h
  · split at h
    · rename_i hpd hact
      have := hf (Xj S.dfl, s) (by rw [hact]; simp [rdAs])
      rw [hpd] at this
      exact this
    · cases h
  · cases h
theorem bif_some {α : Type} {b : Bool} {a x : α} (h : (bif b then some a else none) = some x) : a = x := by
  cases b with
  | false => cases h
  | true => exact Option.some.inj h
theorem varA_fails {S : RS} {l : List Oper} {x : RS × List Oper} {s : List UInt8} (h : varA P N S l = some x) (hf : XU S s) : XU x.1 s := by
  unfold varA at h
  split at h
  · split at h
    · rename_i n n' hpd _
      have hx := bif_some h
      subst hx
      intro y hy
      have := hf y hy
      rw [hpd] at this
      exact this
    · cases h
  · cases h
theorem varL_fails {S : RS} {op : Op} {x : Nat × RS} {s : List UInt8} (h : varL P S op = some x) (hf : XU S s) (A : WA) : XU { x.2 with A := A } s := by
  unfold varL at h
  split at h
  · split at h
    · rename_i n m m' hpd _
      have hx := bif_some h
      subst hx
      intro y hy
      have := hf y hy
      rw [hpd] at this
      exact this
    · cases h
  · cases h
theorem opsR_fails {k : Nat} {rows : List (Nat × Nat × Nat)} {full : List Oper} : ∀ (n : Nat) (l : List Oper) {S S' : RS} {s : List UInt8}, Yl5 K P N k rows full n S l = some S' → XU S s → XU S' s := by
  intro n
  induction n with
  | zero =>
    intro l S S' s h hf
    cases l with
    | nil => simp only [Yl5, Option.some.injEq] at h; subst h; exact hf
    | cons o l => simp [Yl5] at h
  | succ n ih =>
    intro l S S' s h hf
    cases l with
    | nil => simp only [Yl5, Option.some.injEq] at h; subst h; exact hf
    | cons o l =>
      simp only [Yl5] at h
      split at h
      · rename_i x hx
        exact ih _ h (varA_fails hx hf)
      split at h
      · rename_i dd op ty pos aft j want _
        cases hd : Nat.blt dd N with
        | false => rw [hd] at h; cases h
        | true =>
          rw [hd] at h
          simp only [cond_true] at h
          split at h
          · rename_i b hb
            cases hw : b == want with
            | true => rw [hw] at h; exact ih _ h hf
            | false => rw [hw] at h; exact ih _ h (hf.same rfl rfl rfl)
          · cases h
      · rename_i dd op ty pos aft _
        cases hd : Nat.blt dd N with
        | false => rw [hd] at h; cases h
        | true =>
          rw [hd] at h
          simp only [cond_true] at h
          split at h
          · exact ih _ h (hf.same rfl rfl rfl)
          · split at h
            · exact ih _ h (hf.same rfl rfl rfl)
            · split at h
              · rename_i x hx
                exact ih _ h (giveR_fails hx hf)
              · split at h
                · rename_i S1 hx
                  exact absurd (dfltR_fails hx hf) id
                · split at h
                  · rename_i x hx
                    exact ih _ h (varL_fails hx hf _)
                  · cases h
      · split at h
        · rename_i S1 hx
          exact ih _ h (storeR_fails hx hf)
        · cases h
      · cases h
end
end Go.Proofs.YtgjplodgdgaakaaGreatDoor

/- That the reading of code that VV tells the truth: lists, as they are made. Over any program. -/
namespace Go.Proofs.YtgjplodgdgaakaaGreatDoor
open Go Go.RowKit

theorem Ur (zc : List Value) (hz : 0 < zc.length) : ∀ n, (Builtin.zeroCells zc.toArray n).toList = (List.replicate n zc).flatten
  | 0 => by simp [Builtin.zeroCells]
  | n + 1 => by
    have ih := Ur zc hz n
    rw [List.replicate_succ', List.flatten_append, ← ih]
    simp only [Builtin.zeroCells, Array.toList_map, Array.toList_range, List.size_toArray, List.flatten_cons, List.flatten_nil, List.append_nil]
    rw [Nat.succ_mul, List.range_add, List.map_append, List.map_map]
    congr 1
    apply List.ext_getElem
    · simp
    · intro i h1 h2
      simp only [List.getElem_map, List.getElem_range, Function.comp]
      rw [Nat.add_comm, Nat.add_mul_mod_self_right, Nat.mod_eq_of_lt h2]
      simp [h2]
theorem Yh2 {P : Program} {t : TypeId} {zc : List Value} (h : Yk3 P t = some zc) : ∃ e i z, P.underlying t = some (.slice e) ∧ P.info? e = some i ∧ i.zero = some z ∧ z.cells.toList = zc ∧ zc.length = i.size ∧ 0 < zc.length ∧ i.bytes ≤ 1024 ∧ (zc.all fun v => v.oneCell') = true := by
  unfold Yk3 at h
  split at h
  · rename_i e he
    split at h
    · rename_i i hi
      split at h
      · rename_i z hz
        cases hc : z.cells.toList.all (·.oneCell') && Nat.beq z.cells.size i.size && Nat.blt 0 i.size && Nat.ble i.bytes 1024 with
        | false => rw [hc] at h; cases h
        | true =>
          rw [hc] at h
          simp only [cond_true, Option.some.injEq] at h
          simp only [Bool.and_eq_true] at hc
          have h1 := Ys hc.1.1.2
          have h2 := Nat.le_of_ble_eq_true hc.1.2
          have hl : zc.length = i.size := by rw [← h, Array.length_toList]; exact h1
          exact ⟨e, i, z, he, hi, hz, h, hl, by omega, Nat.le_of_ble_eq_true hc.2, by rw [← h]; exact hc.1.1.1⟩
      · cases h
    · cases h
  · cases h
theorem lenP_lt {c : Bool} {s : List UInt8} {x : Int × List UInt8} (h : lenP c s = some x) : x.1 < 2147483648 := by
  simp only [lenP, Option.bind_eq_some_iff] at h
  obtain ⟨y, hy, hx⟩ := h
  split at hx
  · cases hx
  · cases hx
    split at hy
    · simp only [Option.map_eq_some_iff] at hy
      obtain ⟨z, _, rfl⟩ := hy
      simp only [IntKind.wrap_i32]
      omega
    · simp only [Ye1, Option.map_eq_some_iff] at hy
      obtain ⟨z, _, rfl⟩ := hy
      simp only [IntKind.wrap_i32]
      omega
theorem run_appMake {P : Program} (w : World) {t u ty : TypeId} {zc : List Value} {l : Int} (hz : Yk3 P t = some zc) (hu : VI P u .i32 = true) (hl : 0 < l) (hlim : l ≤ 4294967296) :
    ∃ cap e, l.toNat ≤ cap ∧ (Builtin.append_ #[t, u] ty #[.slice none 0 0, .int .i32 l]).run P w = .ok (.slice (some ⟨w.heap.size, 0, none⟩) l.toNat cap) (w.drew.alloc (.cells ((List.replicate cap zc).flatten).toArray e)) := by
  obtain ⟨e, i, z, ht, hi, hzz, hzc, hlen, hpos, hb, _⟩ := Yh2 hz
  have hu' := UT hu
  have hwrap : IntKind.i64.wrap l = l := by rw [IntKind.wrap_i64]; omega
  have hneg : ¬ l < 0 := by omega
  have hcap := grownCap_ge w l.toNat 0 e
  have hmul : l.toNat * i.bytes ≤ 4294967296 * 1024 := Nat.mul_le_mul (by omega) hb
  have hmulI : ¬ ((281474976710656 : Int) < l * (i.bytes : Int)) := by
    have : l * (i.bytes : Int) = ((l.toNat * i.bytes : Nat) : Int) := by rw [Int.natCast_mul, Int.toNat_of_nonneg (by omega)]
    rw [this]; omega
  have h48 : ¬ (281474976710656 < Builtin.nextslicecap l.toNat 0 * i.bytes) := by
    rw [nextslicecap_zero (by omega)]; omega
  have hza : z.cells = zc.toArray := by rw [← hzc]
  have hmx : max l 0 = l := by omega
  have hle0 : ¬ l ≤ 0 := by omega
  have h63l : ¬ (9223372036854775807 : Int) < l := by omega
  refine ⟨grownCap w l.toNat 0 e, e, by omega, ?_⟩
  have hns : ¬ l.toNat * i.size = 0 := by rw [← hlen]; exact Nat.ne_of_gt (Nat.mul_pos (by omega) hpos)
  have hall : Builtin.zeroCells zc.toArray l.toNat ++ Builtin.zeroCells zc.toArray (grownCap w l.toNat 0 e - l.toNat) = ((List.replicate (grownCap w l.toNat 0 e) zc).flatten).toArray := by
    apply Array.ext'
    rw [Array.toList_append, Ur zc hpos, Ur zc hpos, ← List.flatten_append, List.replicate_append_replicate]
    congr 2; omega
  rw [← hall]
  simp [Builtin.append_, run_underlying ht, run_underlying hu', sizeOf, typeInfo, zeroValue, hi, hzz, h48, Question.forced, run_firstCells_none, newRow, grownCap, asInt, asIntOf, hwrap, hneg, hmulI, hza, hmx, hle0, h63l]
  exact fun h => absurd h hns
section
variable {P : Program} {K : Kr} {N g rb sb : Nat} {ev : Value} {k : Nat} {rows : List (Nat × Nat × Nat)} {zs : List (Nat × List Value)} {S : RS} {Ad : List (Nat × Nat)} {R : List Value} {I : List Int} {it : Wi} {sst st0 st : Option (List UInt8)} {a : Act} {w : World}
theorem fr_of {R : List Value} {v : Value} {w w' : World} (hc : Chg (fun _ => False) w w') : Fr rb it it R (R ++ [v]) w w' := ⟨rfl, rfl, rfl, rfl, rfl, hc.wide (fun _ h => h.elim), [v], rfl⟩
/-- 'if .. || l == 0 { a = []T{} }'. -/
theorem lz_ok (H : RAt N g rb sb ev k rows zs S Ad R I it sst st0 st a w) {q : Operand} {h l t u : Nat} {c : Bool} {cd : Code} (hq0 : evW S.A q = some (.res h)) (hh : hiAt S h = some (.lz l)) (hpd : S.pd = .len c l none) (hn : nilR P N S.A cd = some (t, u)) {Q : Exit → Act → World → Prop}
    (hq : ∀ v a' w', Fr rb it it R (R ++ [v]) w w' → RAt N g rb sb ev k rows zs { (({ S with A := Vd (Vd S.A u) t } : RS).new t (.sl0 l)) with pd := .len c l (some S.H.length) } Ad (R ++ [v]) I it sst st0 st a' w' → Q .normal a' w') : (Code.cond q cd .skip).wp P Q a w := by
  have hd := H.kn.eval hq0
  simp only [VW] at hd
  obtain ⟨l0, hl0, hval⟩ := H.ho.2 h _ _ hh hd
  have hp := H.pd
  rw [hpd] at hp
  obtain ⟨l1, hl1, hrel, _⟩ := hp
  rw [hl0] at hl1
  simp only [Option.some.injEq, Value.int.injEq, true_and] at hl1
  subst hl1
  unfold nilR at hn
  split at hn
  · rename_i id ua ty y1 p1 f1 ub ua2 y2 p2 f2
    cases hc : Nat.beq ua ua2 && Nat.blt ua N && Nat.blt ub N && Vc P ty && isNil0 S.A ub && !Nat.beq ua ub with
    | false => rw [hc] at hn; cases hn
    | true =>
      rw [hc] at hn
      simp only [cond_true, Option.some.injEq, Prod.mk.injEq] at hn
      obtain ⟨rfl, rfl⟩ := hn
      simp only [Bool.and_eq_true] at hc
      obtain ⟨⟨⟨⟨⟨h1, h2⟩, h3⟩, h4⟩, h5⟩, h6⟩ := hc
      have := Ys h1; subst this
      have hne : ua ≠ ub := by rintro rfl; rw [Nat.beq_refl] at h6; cases h6
      have hnil : gt a ub = .slice none 0 0 := by
        unfold isNil0 at h5
        split at h5
        · rename_i hx
          have := H.kn.at_ ub _ hx
          simp only [VW, Option.some.injEq] at this
          exact this.symm
        · cases h5
      by_cases h0 : l0 = 0
      · subst h0
        refine wp_cond_true hval ?_
        unfold Vc YH at h4
        split at h4
        · rename_i e he
          cases hi : P.info? e with
          | none => rw [hi] at h4; simp at h4
          | some inf =>
            have hrun : (execOp a.eval ⟨some ua, .buildSlice ty 0 #[], y1, p1, f1, none⟩).run P w = .ok (.value (.slice (some ⟨w.heap.size, 0, none⟩) 0 0)) (w.alloc (.cells #[] e)) := by
              simp [execOp, Instr.buildSlice, run_underlying he, sizeOf, typeInfo, hi, newRow, Instr.fill]
              rw [show Array.range 0 = #[] from rfl, Array.map_empty]
            have hal : Chg (fun _ => False) w (w.alloc (.cells #[] e)) := Uf w _ _
            refine wp_region_lit (YS (o := ⟨some ua, .buildSlice ty 0 #[], y1, p1, f1, none⟩) rfl hrun (Vt ?_))
            have k1 := H.kn.putOff (t := ua) (.slice (some ⟨w.heap.size, 0, none⟩) 0 0)
            have e1 : gt (a.put (some ua) (.slice (some ⟨w.heap.size, 0, none⟩) 0 0)) ua = .slice (some ⟨w.heap.size, 0, none⟩) 0 0 := Yw _ _ _ (by rw [H.kn.size]; exact Nat.le_of_ble_eq_true h2)
            rw [Xf, e1]
            refine hq (.slice (some ⟨w.heap.size, 0, none⟩) 0 0) _ _ (fr_of hal) ?_
            have k2 := k1.putOff (t := ub) (.slice (some ⟨w.heap.size, 0, none⟩) 0 0)
            refine H.next hal ⟨_, _, rfl⟩ trivial (A := Vd (Vd S.A ua) ub) k2 ?_ ?_
            · exact Yw _ _ _ (by rw [k1.size]; exact Nat.le_of_ble_eq_true h3)
            · refine ⟨0, Xa hl0, hrel, fun h => absurd rfl h, fun _ => ⟨w.heap.size, ?_, ⟨.inr H.lo.2.2.2, by simp⟩, ⟨#[], e, (0, 0), heap_alloc_new w _, by simp, by simp⟩⟩⟩
              rw [← H.ho.1]; simp
        · cases h4
      · have hval' : a.eval q = .bool false := by rw [hval]; simp [h0]
        refine wp_cond_false hval' (wp_skip ?_)
        refine hq (.slice none 0 0) a w (fr_of (Chg.refl _ _)) ?_
        refine H.next (Chg.refl _ _) ⟨_, _, rfl⟩ trivial (H.kn.weak (XD (XA _ _) (XA _ _))) hnil ⟨l0, Xa hl0, hrel, fun _ => ?_, fun h => absurd h h0⟩
        rw [← H.ho.1]; simp
  · cases hn
/-- 'if l > 0 { a = append(a, make([]T, l)...) }'. -/
theorem lp_ok (H : RAt N g rb sb ev k rows zs S Ad R I it sst st0 st a w) {q : Operand} {h l t x y u ty : Nat} {c : Bool} {z z' : Option Nat} {zc : List Value} {cd : Code} (hq0 : evW S.A q = some (.res h)) (hh : hiAt S h = some (.lp l)) (hpd : S.pd = .ok c l z) (hn : madeR P N S l cd = some (t, x, y, u, z')) (hty : madeTy cd = some ty) (hzc : Yk3 P ty = some zc) (hzz : optEq z z' = true) {Q : Exit → Act → World → Prop}
    (hq : ∀ v a' w', Fr rb it it R (R ++ [v]) w w' → RAt N g rb sb ev k rows ((S.H.length, zc) :: zs) { (({ S with A := Vd (Vd (Vd (Vd S.A x) y) u) t } : RS).new t (.row l)) with pd := .made c l z S.H.length } Ad (R ++ [v]) I it sst st0 st a' w' → Q .normal a' w') : (Code.cond q cd .skip).wp P Q a w := by
  have hd := H.kn.eval hq0
  simp only [VW] at hd
  obtain ⟨l0, hl0, hval⟩ := H.ho.2 h _ _ hh hd
  have hp := H.pd
  rw [hpd] at hp
  obtain ⟨l1, s1, hl1, hrel, hst, hzok⟩ := hp
  rw [hl0] at hl1
  simp only [Option.some.injEq, Value.int.injEq, true_and] at hl1
  subst hl1
  obtain ⟨_, _, _, _, _, _, _, hzlen, hzpos, _, hzone⟩ := Yh2 hzc
  -- the count is no more than what lies ahead
  have hlim : l0 ≤ 4294967296 := by
    subst hst
    cases st0 with
    | none => simp [Uq] at hrel
    | some s0 =>
      simp only [Uq] at hrel
      split at hrel
      · rename_i p hp
        simp only [Option.some.injEq] at hrel
        have := lenP_lt hp
        rw [hrel.2]
        omega
      · cases hrel
  unfold madeR at hn
  split at hn
  · rename_i id tx tb y1 p1 f1 tyy ts y2 p2 f2 ta x2 yy2 t0 t32 y3 p3 f3 tb2 a2 y4 p4 f4
    cases hc : Nat.beq tx x2 && Nat.beq tyy yy2 && Nat.beq ta a2 && Nat.beq tb tb2 && Nat.blt tx N && Nat.blt tyy N && Nat.blt ta N && Nat.blt tb N && !Nat.beq tx tyy && Vc P t0 && VI P t32 .i32 && isRes S.A ts l && !Nat.beq tx ts && !Nat.beq tx tb && !Nat.beq tyy tb && !Nat.beq ta tb with
    | false => rw [hc] at hn; cases hn
    | true =>
      rw [hc] at hn
      simp only [cond_true] at hn
      simp only [Bool.and_eq_true] at hc
      obtain ⟨⟨⟨⟨⟨⟨⟨⟨⟨⟨⟨⟨⟨⟨⟨g1, g2⟩, g3⟩, g4⟩, g5⟩, g6⟩, g7⟩, g8⟩, g9⟩, g10⟩, g11⟩, g12⟩, g13⟩, g14⟩, g15⟩, g16⟩ := hc
      have := Ys g1; subst this
      have := Ys g2; subst this
      have := Ys g3; subst this
      have := Ys g4; subst this
      have ne : ∀ p q : Nat, (!Nat.beq p q) = true → p ≠ q := by rintro p q h rfl; rw [Nat.beq_refl] at h; cases h
      simp only [madeTy, Option.some.injEq] at hty
      subst hty
      have hres : gt a ts = .int .i32 l0 := by
        unfold isRes at g12
        split at g12
        · rename_i n hx
          have := Ys g12; subst this
          have := H.kn.at_ ts _ hx
          simp only [VW] at this
          rw [hl0] at this
          simpa using this.symm
        · cases g12
      -- what the slot held
      have hslot : ∃ v0, gt a tb = v0 ∧ (l0 ≠ 0 → v0 = .slice none 0 0) ∧ (match z with | none => v0 = .slice none 0 0 | some zi => R[zi]? = some v0) ∧ (tb, tx, tyy, ta, z') = (t, x, y, u, z') := by
        split at hn
        · rename_i hx
          cases hn
          have := H.kn.at_ _ _ hx
          simp only [VW, Option.some.injEq] at this
          have hzn : z = none := by cases z with | none => rfl | some _ => cases hzz
          subst hzn
          exact ⟨_, this.symm, fun _ => rfl, rfl, rfl⟩
        · rename_i zi hx
          split at hn
          · rename_i l' hzi
            cases hll : Nat.beq l l' with
            | false => rw [hll] at hn; cases hn
            | true =>
              rw [hll] at hn
              simp only [cond_true, Option.some.injEq, Prod.mk.injEq] at hn
              obtain ⟨rfl, rfl, rfl, rfl, rfl⟩ := hn
              cases z with
              | none => cases hzz
              | some zi' =>
                have := Ys hzz; subst this
                have hg := H.kn.at_ tb _ hx
                simp only [VW] at hg
                refine ⟨gt a tb, rfl, fun h0 => ?_, hg, rfl⟩
                have := hzok.1 h0
                rw [hg] at this
                simpa using this
          · cases hn
        · cases hn
      obtain ⟨v0, hv0, hnz, hz0, hvars⟩ := hslot
      simp only [Prod.mk.injEq, and_true] at hvars
      obtain ⟨rfl, rfl, rfl, rfl⟩ := hvars
      by_cases hpos : 0 < l0
      · have hval' : a.eval q = .bool true := by rw [hval]; simp [hpos]
        have hv0' := hnz (by omega)
        subst hv0'
        obtain ⟨cap, e, hcap, hrun⟩ := run_appMake (P := P) w (ty := y3) hzc g11 hpos hlim
        refine wp_cond_true hval' (wp_region_lit (Vn ?_))
        rw [Xf, hv0]
        have k1 := H.kn.putOff (t := tx) (.slice none 0 0)
        have e1 : gt (a.put (some tx) (.slice none 0 0)) tx = .slice none 0 0 := Yw _ _ _ (by rw [H.kn.size]; exact Nat.le_of_ble_eq_true g5)
        have e2 : gt (a.put (some tx) (.slice none 0 0)) ts = .int .i32 l0 := by rw [Yy _ _ _ _ (ne _ _ g13).symm]; exact hres
        generalize a.put (some tx) (.slice none 0 0) = b1 at *
        refine Vn ?_
        rw [Xf, e2]
        have k2 := k1.putOff (t := tyy) (.int .i32 l0)
        have e3 : gt (b1.put (some tyy) (.int .i32 l0)) tx = .slice none 0 0 := by rw [Yy _ _ _ _ (ne _ _ g9)]; exact e1
        have e4 : gt (b1.put (some tyy) (.int .i32 l0)) tyy = .int .i32 l0 := Yw _ _ _ (by rw [k1.size]; exact Nat.le_of_ble_eq_true g6)
        generalize b1.put (some tyy) (.int .i32 l0) = b2 at *
        have hexec : (execOp b2.eval ⟨some ta, .call ⟨.builtin .append, #[.tmp tx, .tmp tyy], #[t0, t32]⟩, y3, p3, f3, none⟩).run P w = .ok (.value (.slice (some ⟨w.heap.size, 0, none⟩) l0.toNat cap)) (w.drew.alloc (.cells ((List.replicate cap zc).flatten).toArray e)) := by
          simp only [execOp, resolve, List.map_toArray, List.map_cons, List.map_nil, Xf, e3, e4, Sem.run_bind, Sem.run_pure, Result.andThen_ok, invoke, builtin, hrun]
        refine YS (o := ⟨some ta, .call ⟨.builtin .append, #[.tmp tx, .tmp tyy], #[t0, t32]⟩, y3, p3, f3, none⟩) rfl hexec ?_
        have hal : Chg (fun _ => False) w (w.drew.alloc (.cells ((List.replicate cap zc).flatten).toArray e)) := (VL w _).trans (Uf w.drew _ _)
        have k3 := k2.putOff (t := ta) (.slice (some ⟨w.heap.size, 0, none⟩) l0.toNat cap)
        have e5 : gt (b2.put (some ta) (.slice (some ⟨w.heap.size, 0, none⟩) l0.toNat cap)) ta = .slice (some ⟨w.heap.size, 0, none⟩) l0.toNat cap := Yw _ _ _ (by rw [k2.size]; exact Nat.le_of_ble_eq_true g7)
        refine Vt ?_
        rw [Xf, e5]
        have k4 := k3.putOff (t := tb) (.slice (some ⟨w.heap.size, 0, none⟩) l0.toNat cap)
        refine hq (.slice (some ⟨w.heap.size, 0, none⟩) l0.toNat cap) _ _ (fr_of hal) ?_
        refine H.next hal trivial trivial k4 (Yw _ _ _ (by rw [k3.size]; exact Nat.le_of_ble_eq_true g8)) ?_
        refine ⟨l0, s1, _, zc, zs, Xa hl0, hrel, hst, (hzok.turn hal (fun k h => h.elim)).more, by rw [← H.ho.1]; simp, rfl, ⟨fun _ => ⟨w.heap.size, cap, e, rfl, H.lo.2.2.2, by simp, hcap, VN w.drew _ _, rfl, ?_⟩, fun h => absurd hpos h⟩, hzone, hzpos⟩
        exact H.ds.up (fun r hr => ⟨⟨hr.1, Nat.lt_of_lt_of_le hr.2 hal.size⟩, hr.2⟩) (fun r hr => hal.block r hr.2 (fun h => h))
      · have hval' : a.eval q = .bool false := by rw [hval]; simp [hpos]
        refine wp_cond_false hval' (wp_skip (hq v0 a w (fr_of (Chg.refl _ _)) ?_))
        refine H.next (Chg.refl _ _) trivial trivial (H.kn.weak (XD (XD (XD (XA _ _) (XA _ _)) (XA _ _)) (XA _ _))) hv0 ?_
        refine ⟨l0, s1, v0, zc, zs, Xa hl0, hrel, hst, hzok.more, by rw [← H.ho.1]; simp, rfl, ⟨fun h => absurd h hpos, fun _ => ?_⟩, hzone, hzpos⟩
        cases z with
        | none => exact hz0
        | some zi => exact Xa hz0
  · cases hn
end
end Go.Proofs.YtgjplodgdgaakaaGreatDoor

/- That the reading of code that VV tells the truth: the loop over a list's elements. Over any program. -/
namespace Go.Proofs.YtgjplodgdgaakaaGreatDoor
open Go Go.RowKit

theorem Jj (body : List Ra) (dfl : List D) : ∀ (n : Nat) (s : List UInt8), VO body dfl (n + 1) s = (VO body dfl n s).bind fun x => (rdAs body dfl x.2).map fun y => (x.1 ++ [y.1], y.2)
  | 0, s => by
    simp only [VO, Option.bind_some]
    cases rdAs body dfl s <;> simp
  | n + 1, s => by
    rw [VO]
    cases h : rdAs body dfl s with
    | none => rw [VO, h]; rfl
    | some x =>
      simp only [Option.bind_some]
      rw [Jj body dfl n x.2, VO, h]
      simp only [Option.bind_some]
      cases VO body dfl n x.2 with
      | none => rfl
      | some y =>
        simp only [Option.bind_some, Option.map_some]
        cases rdAs body dfl y.2 <;> simp
theorem Yb8 (body : List Ra) (dfl : List D) (s : List UInt8) (i : Nat) : ∀ (n : Nat), i ≤ n → VO body dfl i s = none → VO body dfl n s = none
  | 0, h, e => by
    have : i = 0 := by omega
    subst this; exact e
  | n + 1, h, e => by
    by_cases hi : i ≤ n
    · rw [Jj, Yb8 body dfl s i n hi e]; rfl
    · have : i = n + 1 := by omega
      subst this; exact e
/-- What the first i elements come to. -/
def ItR (body : List Ra) (dfl : List D) (i : Nat) (s : List UInt8) (dss : List (List D)) (st : Option (List UInt8)) : Prop := match VO body dfl i s with
  | some x => st = some x.2 ∧ dss = x.1
  | none => st = none
theorem ItR.step {body : List Ra} {dfl : List Value} {i : Nat} {s : List UInt8} {dss : List (List D)} {st st' : Option (List UInt8)} {ds : List D} (h : ItR body (Xj dfl) i s dss st) (k : OutR body (Xj dfl) st ds st') : ItR body (Xj dfl) (i + 1) s (dss ++ [ds]) st' := by
  unfold ItR at *
  rw [Jj]
  have k2 := k.2
  cases hx : VO body (Xj dfl) i s with
  | none =>
    rw [hx] at h
    simp only [] at h
    subst h
    exact k2
  | some x =>
    rw [hx] at h
    obtain ⟨rfl, rfl⟩ := h
    simp only [] at k2
    simp only [Option.bind_some]
    cases hy : rdAs body (Xj dfl) x.2 with
    | none => rw [hy] at k2; exact k2
    | some y =>
      rw [hy] at k2
      obtain ⟨rfl, rfl⟩ := k2
      exact ⟨rfl, rfl⟩
theorem rep_elD {ok : Nat → Prop} {w : World} {stt : Bool} {ds : List D} {cs : List Value} (h : YX ok w ds cs) : Rep ok w (elD stt ds) cs := by
  unfold elD
  split
  · simpa only [Rep] using h
  · split
    · obtain ⟨c1, c2, rfl, h1, h2⟩ := h
      simp only [YX] at h2
      subst h2
      simpa using h1
    · simpa only [Rep] using h
section
variable {P : Program} {K : Kr} {N g rb sb : Nat} {ev : Value} {k : Nat} {rows : List (Nat × Nat × Nat)} {zs : List (Nat × List Value)} {S : RS} {Ad : List (Nat × Nat)} {R : List Value} {I : List Int} {it : Wi} {sst st0 st : Option (List UInt8)} {a : Act} {w : World}
theorem denW_wide {s : Wd} {v : Value} (Ad' : List (Nat × Nat)) (R' : List Value) (I' : List Int) (h : VW rb Ad R I s = some v) : VW rb (Ad ++ Ad') (R ++ R') (I ++ I') s = some v := by
  cases s with
  | val v => exact h
  | rdr => exact h
  | at_ k o =>
    simp only [VW, Option.map_eq_some_iff] at h ⊢
    obtain ⟨p, hp, e⟩ := h
    exact ⟨p, Xa hp, e⟩
  | res n => exact Xa h
  | idx m =>
    simp only [VW, Option.map_eq_some_iff] at h ⊢
    obtain ⟨p, hp, e⟩ := h
    exact ⟨p, Xa hp, e⟩
theorem KnW.wide {A : WA} (h : KnW N rb a A Ad R I) (Ad' : List (Nat × Nat)) (R' : List Value) (I' : List Int) : KnW N rb a A (Ad ++ Ad') (R ++ R') (I ++ I') := ⟨h.size, h.defers, fun t s e => denW_wide Ad' R' I' (h.at_ t s e)⟩
theorem KnW.back {a' : Act} {A : WA} {Ad' : List (Nat × Nat)} {R' : List Value} {I' : List Int} (h : KnW N rb a A Ad R I) (h' : KnW N rb a' A (Ad ++ Ad') (R ++ R') (I ++ I')) : KnW N rb a' A Ad R I := by
  refine ⟨h'.size, h'.defers, fun t s e => ?_⟩
  have h1 := h.at_ t s e
  have h2 := h'.at_ t s e
  rw [denW_wide Ad' R' I' h1] at h2
  rw [h1, h2]
/-- A loop's head: is its index below the count? -/
theorem head_ok {V : WA} {x1 y1 c1 i1 l1 N : Nat} {r1 : Nat} {t1 u1 ta tb tc : TypeId} {p1 p2 p3 : String} {f1 f2 f3 : Array Edge} {i l : Int} {Q : Exit → Act → World → Prop} (k : KnW N rb a V Ad R I) (hx : lkW V x1 = none) (hy : lkW V y1 = none) (hc : lkW V c1 = none) (bx : Nat.blt x1 N = true) (bY : Nat.blt y1 N = true) (bc : Nat.blt c1 N = true) (hi : gt a i1 = .int .i32 i) (hl : gt a l1 = .int .i32 l)
    (n1 : i1 ≠ x1) (n2 : i1 ≠ y1) (n3 : i1 ≠ c1) (n4 : x1 ≠ y1) (n5 : x1 ≠ l1)
    (hq : ∀ b, KnW N rb b V Ad R I → gt b i1 = .int .i32 i → gt b c1 = .bool (decide (i < l)) → Q .normal b w) :
    (Code.region r1 #[⟨some x1, .move (.tmp i1), ta, p1, f1, none⟩, ⟨some y1, .move (.tmp l1), tb, p2, f2, none⟩, ⟨some c1, .binOp .lss t1 (.tmp x1) (.tmp y1) u1, tc, p3, f3, none⟩] false).wp P Q a w := by
  refine wp_region_lit (Vn ?_)
  rw [Xf, hi]
  have k1 := k.putFree (t := x1) (.int .i32 i) hx
  have e1 : gt (a.put (some x1) (.int .i32 i)) x1 = .int .i32 i := Yw _ _ _ (by rw [k.size]; exact Nat.le_of_ble_eq_true bx)
  have e2 : gt (a.put (some x1) (.int .i32 i)) i1 = .int .i32 i := by rw [Yy _ _ _ _ n1]; exact hi
  have e3 : gt (a.put (some x1) (.int .i32 i)) l1 = .int .i32 l := by rw [Yy _ _ _ _ n5.symm]; exact hl
  generalize a.put (some x1) (.int .i32 i) = b1 at *
  refine Vn ?_
  rw [Xf, e3]
  have k2 := k1.putFree (t := y1) (.int .i32 l) hy
  have d1 : gt (b1.put (some y1) (.int .i32 l)) x1 = .int .i32 i := by rw [Yy _ _ _ _ n4]; exact e1
  have d2 : gt (b1.put (some y1) (.int .i32 l)) y1 = .int .i32 l := Yw _ _ _ (by rw [k1.size]; exact Nat.le_of_ble_eq_true bY)
  have d3 : gt (b1.put (some y1) (.int .i32 l)) i1 = .int .i32 i := by rw [Yy _ _ _ _ n2]; exact e2
  generalize b1.put (some y1) (.int .i32 l) = b2 at *
  refine st_lss d1 d2 ?_
  have k3 := k2.putFree (t := c1) (.bool (decide (i < l))) hc
  exact hq _ k3 (by rw [Yy _ _ _ _ n3]; exact d3) (Yw _ _ _ (by rw [k2.size]; exact Nat.le_of_ble_eq_true bc))
/-- A loop's tail: the next index. -/
theorem tail_ok {V : WA} {u1 w1 i1 N : Nat} {r1 : Nat} {t1 u2 ta tb tc : TypeId} {p1 p2 p3 : String} {f1 f2 f3 : Array Edge} {i : Int} {Q : Exit → Act → World → Prop} (k : KnW N rb a V Ad R I) (hu : lkW V u1 = none) (hw : lkW V w1 = none) (hv : lkW V i1 = none) (bu : Nat.blt u1 N = true) (bw : Nat.blt w1 N = true) (bi : Nat.blt i1 N = true) (hi : gt a i1 = .int .i32 i)
    (hq : ∀ b, KnW N rb b V Ad R I → gt b i1 = .int .i32 (IntKind.i32.wrap (i + 1)) → Q .normal b w) :
    (Code.region r1 #[⟨some u1, .move (.tmp i1), ta, p1, f1, none⟩, ⟨some w1, .binOp .add t1 (.tmp u1) (.const (.int .i32 1)) u2, tb, p2, f2, none⟩, ⟨some i1, .assign (.tmp w1), tc, p3, f3, none⟩] false).wp P Q a w := by
  refine wp_region_lit (Vn ?_)
  rw [Xf, hi]
  have k1 := k.putFree (t := u1) (.int .i32 i) hu
  have e1 : gt (a.put (some u1) (.int .i32 i)) u1 = .int .i32 i := Yw _ _ _ (by rw [k.size]; exact Nat.le_of_ble_eq_true bu)
  generalize a.put (some u1) (.int .i32 i) = b1 at *
  refine st_add e1 (by rfl) ?_
  have k2 := k1.putFree (t := w1) (.int .i32 (IntKind.i32.wrap (i + 1))) hw
  have d1 : gt (b1.put (some w1) (.int .i32 (IntKind.i32.wrap (i + 1)))) w1 = .int .i32 (IntKind.i32.wrap (i + 1)) := Yw _ _ _ (by rw [k1.size]; exact Nat.le_of_ble_eq_true bw)
  generalize b1.put (some w1) (.int .i32 (IntKind.i32.wrap (i + 1))) = b2 at *
  refine Vt ?_
  rw [Xf, d1]
  exact hq _ (k2.putFree _ hv) (Yw _ _ _ (by rw [k2.size]; exact Nat.le_of_ble_eq_true bi))
end
end Go.Proofs.YtgjplodgdgaakaaGreatDoor

/- That the reading of code that VV tells the truth: the loop over a list's elements, whole. Over any program. -/
namespace Go.Proofs.YtgjplodgdgaakaaGreatDoor
open Go Go.RowKit

section
variable {P : Program} {K : Kr} {N g rb sb : Nat} {ev : Value} {k : Nat} {rows : List (Nat × Nat × Nat)} {zs : List (Nat × List Value)} {S : RS} {Ad : List (Nat × Nat)} {R : List Value} {I : List Int} {it : Wi} {sst st0 st : Option (List UInt8)} {a : Act} {w : World}
theorem loopR_ok {rs id q1 q2 x1 y1 c1 u1 w1 i1 l1 l r : Nat} {t1 u2 t3 u3 ta tb tc td te tf : TypeId} {p1 p2 p3 p4 p5 p6 : String} {f1 f2 f3 f4 f5 f6 : Array Edge} {c : Bool} {z : Option Nat} {zc : List Value} {zs' : List (Nat × List Value)} {V : WA} {S2 : RS} {body : Code} {Q : Exit → Act → World → Prop}
    (H : RAt N g rb sb ev k rows zs S Ad R I it sst st0 st a w) (hpd : S.pd = .made c l z r) (hzs : zs = (r, zc) :: zs') (hlast : Yb4 S.H = true)
    (kV : Yl3 S.A V) (vi : lkW V i1 = none) (vx : lkW V x1 = none) (vy : lkW V y1 = none) (vc : lkW V c1 = none) (vu : lkW V u1 = none) (vw : lkW V w1 = none) (hl1 : lkW V l1 = some (.res l)) (hi0 : lkW S.A i1 = some (.val (.int .i32 0)))
    (bx : Nat.blt x1 N = true) (bY : Nat.blt y1 N = true) (bc : Nat.blt c1 N = true) (bu : Nat.blt u1 N = true) (bw : Nat.blt w1 N = true) (bi : Nat.blt i1 N = true)
    (n1 : i1 ≠ x1) (n2 : i1 ≠ y1) (n3 : i1 ≠ c1) (n4 : x1 ≠ y1) (n5 : x1 ≠ l1)
    (hwi : Yl3 S2.A V) (hidx : lkW S2.A i1 = some (.idx (k + 1))) (hno : S2.pd = .no) (hlenS : S2.cells.length = zc.length)
    (hbody : ∀ (Ad' : List (Nat × Nat)) (R' : List Value) (I' : List Int) (it' : Wi) (st' : Option (List UInt8)) (a' : Act) (w' : World) (Q' : Exit → Act → World → Prop), RAt N g rb sb ev (k + 1) ((k + 1, r, zc.length) :: rows) zs' ⟨(i1, .idx (k + 1)) :: V, S.H, .no, zc.map some, shDs (Xj zc), false, zc, []⟩ Ad' R' I' it' st' st' st' a' w' →
      (∀ R'' it'' st0'' st'' a'' w'', Fr rb it' it'' R' R'' w' w'' → RAt N g rb sb ev (k + 1) ((k + 1, r, zc.length) :: rows) zs' S2 Ad' R'' I' it'' st' st0'' st'' a'' w'' → Q' .normal a'' w'') →
      (∀ a'' w'', Bad N g rb ev rs it' w' a'' w'' → (∀ s, st' = some s → XU S2 s) → Q' .ret a'' w'') → body.wp P Q' a' w')
    (hq : ∀ st' a' w', Fr rb it it R R w w' → RAt N g rb sb ev k rows zs' { S with A := V, pd := .done c z.isSome r S2.st S2.dfl S2.acts } Ad R I it sst st0 st' a' w' → Q .normal a' w')
    (hbad : ∀ a' w', Bad N g rb ev rs it w a' w' → (∀ s, sst = some s → XU { S with A := V, pd := .done c z.isSome r S2.st S2.dfl S2.acts } s) → Q .ret a' w') :
    (Code.block id (.loop (.seq (.seq (.region q1 #[⟨some x1, .move (.tmp i1), ta, p1, f1, none⟩, ⟨some y1, .move (.tmp l1), tb, p2, f2, none⟩, ⟨some c1, .binOp .lss t1 (.tmp x1) (.tmp y1) u2, tc, p3, f3, none⟩] false) (.cond (.tmp c1) .skip (.exit id))) (.seq body (.region q2 #[⟨some u1, .move (.tmp i1), td, p4, f4, none⟩, ⟨some w1, .binOp .add t3 (.tmp u1) (.const (.int .i32 1)) u3, te, p5, f5, none⟩, ⟨some i1, .assign (.tmp w1), tf, p6, f6, none⟩] false))))).wp P Q a w := by
  have hp := H.pd
  rw [hpd] at hp
  obtain ⟨l0, s1, v, zc', rest, hl0, hrel, hst, hzok, hr, hzs', hnew, hone, hpos⟩ := hp
  rw [hzs] at hzs'
  simp only [List.cons.injEq, Prod.mk.injEq, true_and] at hzs'
  obtain ⟨rfl, rfl⟩ := hzs'
  subst hst
  obtain ⟨s0, hs0, hlen0⟩ : ∃ s0, st0 = some s0 ∧ lenP c s0 = some (l0, s1) := by
    cases st0 with
    | none => simp [Uq] at hrel
    | some s0 =>
      simp only [Uq] at hrel
      split at hrel
      · rename_i x hx
        obtain ⟨e1, e2⟩ := hrel
        simp only [Option.some.injEq] at e1
        exact ⟨s0, rfl, by rw [hx, e1, e2]⟩
      · cases hrel
  have hlt := lenP_lt hlen0
  simp only [] at hlt
  have kn := H.kn.weak kV
  have hgl : ∀ b, KnW N rb b V Ad R I → gt b l1 = .int .i32 l0 := by
    intro b kb
    have := kb.at_ l1 _ hl1
    simp only [VW] at this
    rw [hl0] at this
    simpa using this.symm
  have hgi : gt a i1 = .int .i32 0 := by
    have := H.kn.at_ i1 _ hi0
    simp only [VW, Option.some.injEq] at this
    exact this.symm
  have hrow : rowP c z.isSome S2.st S2.dfl S2.acts s0 = (VO S2.acts (Xj S2.dfl) l0.toNat s1).map fun y =>
    (if z.isSome then (if l0 < 0 then .sl true [] else .sl false (y.1.map (elD S2.st))) else .sq (y.1.map (elD S2.st)), y.2) := by
    simp only [rowP, hlen0, Option.bind_some]
  have hlo := H.lo
  have hne := H.ne
  have hglb := H.gl
  have fin : ∀ (d : D) (stf : Option (List UInt8)) (af : Act) (wf : World), KnW N rb af V Ad R I → Chg (fun j => j = rb ∨ it.lo ≤ j) w wf → v.cells = #[v] → v.oneCell' = true → Rep (Dk sb it.lo wf) wf d [v] → shD d = [.sl] → (match rowP c z.isSome S2.st S2.dfl S2.acts s0 with
      | some x => stf = some x.2 ∧ d = x.1
      | none => stf = none) → Rdr wf rb sb stf → YX (Dk sb it.lo wf) wf it.ds it.cs → Q .normal af wf := by
    intro d stf af wf kf hc hv1 hv2 hd hsd hrr hrd hds
    refine hq stf af wf ⟨rfl, rfl, rfl, rfl, rfl, hc.wide (fun j hj => by rcases hj with h | h; exact .inl h; exact .inr (.inr h)), [], by simp⟩ ⟨kf, H.ho, ?_, H.ad, H.lens, H.row, ?_, hds, H.cl, H.sh, H.cells, hrd, ?_, H.fresh, H.rel, ⟨hlo.1, hlo.2.1, hlo.2.2.1, Nat.le_trans hlo.2.2.2 hc.size⟩, H.ne, ?_⟩
    · intro h u hh hu
      unfold Yb4 at hlast
      simp only [] at hh
      split at hlast
      · rename_i n hx
        rw [hx] at hh
        cases hh
        trivial
      · cases hlast
    · exact H.box.chg hc (by rintro (h | h); exact hne.2.1 h; omega)
    · refine ⟨v, d, hr, hv1, hv2, hd, hsd, ?_⟩
      rw [hs0]
      exact hrr
    · refine ⟨?_, H.gl.2⟩
      have h1 := H.gl.1
      have hg : wf.heap[g]? = w.heap[g]? := hc.block g (by omega) (by rintro (h | h); exact hglb.2.1 h; omega)
      simp only [World.cell?] at h1 ⊢
      rw [hg]; exact h1
  by_cases hpl : 0 < l0
  · obtain ⟨hb, cap, e, rfl, hbl, hbw, hcap, hbox, _, hreps⟩ := hnew.1 hpl
    obtain ⟨m, hm⟩ : ∃ m : Nat, l0 = (m : Int) := ⟨l0.toNat, by omega⟩
    subst hm
    simp only [Int.toNat_natCast] at hcap hrow
    refine wp_block (wp_loop_ghost (fun n a' w' => ∃ i sti dss cells, i ≤ m ∧ n = m - i ∧ KnW N rb a' V Ad R I ∧ gt a' i1 = .int .i32 (i : Int) ∧ Chg (fun j => j = rb ∨ hb ≤ j) w w' ∧ Box w' hb (cells ++ (List.replicate (cap - i) zc).flatten) e ∧ cells.length = i * zc.length ∧ dss.length = i ∧ YX (Dk sb (hb + 1) w') w' (dss.map (elD S2.st)) cells ∧ Rdr w' rb sb sti ∧ ItR S2.acts (Xj S2.dfl) i s1 dss sti)
      m ⟨0, some s1, [], [], Nat.zero_le _, rfl, kn, hgi, Chg.refl _ _, by simpa using hbox, by simp, rfl, by simp [YX], H.rdr, by simp [ItR, VO]⟩ ?_)
    rintro n a' w' ⟨i, sti, dss, cells, hi, rfl, k', hgi', hc', hbox', hcl, hdl, hrp, hrd, hit⟩
    have hsz := hc'.size
    refine wp_seq (wp_seq (head_ok k' vx vy vc bx bY bc hgi' (hgl a' k') n1 n2 n3 n4 n5 (fun b kb hbi hbc => ?_)))
    by_cases hlt' : i < m
    · have hd1 : decide ((i : Int) < (m : Int)) = true := by simpa using hlt'
      rw [hd1] at hbc
      refine wp_cond_true hbc (wp_skip (wp_seq ?_))
      have hxs : cap - i = (cap - i - 1) + 1 := by omega
      rw [hxs, List.replicate_succ, List.flatten_cons, ← List.append_assoc] at hbox'
      have hbw' := hbox'.lt
      have hgne : g ≠ hb := by omega
      have HB : RAt N g rb sb ev (k + 1) ((k + 1, r, zc.length) :: rows) zs' ⟨(i1, .idx (k + 1)) :: V, S.H, .no, zc.map some, shDs (Xj zc), false, zc, []⟩ (Ad ++ [(hb, cells.length)]) R (I ++ [(i : Int)]) ⟨hb, w'.heap.size, cells, (List.replicate (cap - i - 1) zc).flatten, zc, e, Xj zc⟩ sti sti sti b w' := by
        refine ⟨?_, H.ho, ?_, ?_, ?_, ?_, hbox', Ve _, ?_, ⟨rfl, ?_⟩, ?_, hrd, rfl, fun _ => ⟨rfl, rfl⟩, ⟨rfl, ?_⟩, ⟨hbw', by simp only []; omega, by simp only []; omega, Nat.le_refl _⟩, ⟨hne.1, by simp only []; omega, by simp only []; omega⟩, ⟨?_, hglb.2.1, by simp only []; omega, hgne⟩⟩
        · have := (kb.wide [(hb, cells.length)] [] [(i : Int)]).know (t := i1) (s := .idx (k + 1)) (by
            simp only [VW]
            rw [List.getElem?_append_right (by rw [H.lens.2]; exact Nat.le_refl _), H.lens.2, Nat.sub_self, hbi]
            rfl)
          rw [List.append_nil] at this
          exact this
        · intro h u hh hu
          unfold Yb4 at hlast
          simp only [] at hh
          split at hlast
          · rename_i n hx
            rw [hx] at hh
            cases hh
            trivial
          · cases hlast
        · rw [List.getElem?_append_right (by rw [H.lens.1]; exact Nat.le_refl _), H.lens.1, Nat.sub_self]; rfl
        · simp [H.lens.1, H.lens.2]
        · intro q rest' hq1 hq2
          simp only [List.cons.injEq] at hq1
          obtain ⟨rfl, rfl⟩ := hq1
          refine ⟨_, cap, i, hr, ?_, hcl, by simpa using hlt'⟩
          rw [List.getElem?_append_right (by rw [H.lens.2]; exact Nat.le_refl _), H.lens.2, Nat.sub_self]; rfl
        · simp
        · intro d hd
          simp only [Xj, List.mem_map] at hd
          obtain ⟨u, _, rfl⟩ := hd
          rfl
        · intro j u hj
          simp only [List.getElem?_map, Option.map_eq_some_iff] at hj
          obtain ⟨u', hu, he⟩ := hj
          cases he
          exact hu
        · cases sti with
          | none => rfl
          | some s => simp [rdAs]
        · have h1 := H.gl.1
          have hg : w'.heap[g]? = w.heap[g]? := hc'.block g (by omega) (by rintro (h | h); exact hglb.2.1 h; omega)
          simp only [World.cell?] at h1 ⊢
          rw [hg]; exact h1
      refine hbody _ _ _ _ _ _ _ _ HB ?_ ?_
      · intro R'' it'' st0'' st'' a2 w2 f2 H2
        obtain ⟨X, hX⟩ := f2.more
        subst hX
        have k2 : KnW N rb a2 V Ad R I := KnW.back k' (H2.kn.weak hwi)
        have hgi2 : gt a2 i1 = .int .i32 (i : Int) := by
          have := H2.kn.at_ i1 _ hidx
          simp only [VW] at this
          rw [List.getElem?_append_right (by rw [H.lens.2]; exact Nat.le_refl _), H.lens.2, Nat.sub_self] at this
          simpa using this.symm
        have hwrap : IntKind.i32.wrap ((i : Int) + 1) = ((i + 1 : Nat) : Int) := by rw [IntKind.wrap_i32]; omega
        have hpd2 := H2.pd
        rw [hno] at hpd2
        have hst2 : st'' = st0'' := hpd2
        subst hst2
        refine tail_ok k2 vu vw vi bu bw bi hgi2 (fun b2 kb2 hb2 => ?_)
        rw [hwrap] at hb2
        have hcs2 : it''.cs.length = zc.length := by rw [← H2.cl]; exact hlenS
        have hf2 := f2.chg
        simp only [] at hf2
        have hbx2 := H2.box
        rw [f2.b, f2.pre, f2.post, f2.e] at hbx2
        simp only [] at hbx2
        have hlo2 : it''.lo = w'.heap.size := f2.lo
        refine ⟨m - (i + 1), by omega, i + 1, st'', dss ++ [it''.ds], cells ++ it''.cs, hlt', rfl, kb2, hb2, ?_, ?_, ?_, by simp [hdl], ?_, H2.rdr, hit.step H2.rel⟩
        · exact hc'.trans (hf2.wide (fun j hj => by rcases hj with h | h | h; exact .inl h; exact .inr (by omega); exact .inr (by omega)))
        · rw [show cap - (i + 1) = cap - i - 1 by omega]; exact hbx2
        · rw [List.length_append, hcl, hcs2, Nat.add_mul]; omega
        · rw [List.map_append]
          refine (YX.app _ _ _).2 ⟨cells, it''.cs, rfl, ?_, ?_⟩
          · exact hrp.up (fun r' hr' => ⟨hr'.1, Nat.lt_of_lt_of_le hr'.2 hf2.size⟩) (fun r' hr' => hf2.block r' hr'.2 (by
              have := hr'.1
              have := hr'.2
              rintro (h | h | h) <;> omega))
          · refine ⟨it''.cs, [], by simp, rep_elD ?_, rfl⟩
            have hd2 := H2.ds
            rw [hlo2] at hd2
            exact hd2.up (fun r' hr' => ⟨by rcases hr'.1 with h | h; exact .inl h; exact .inr (by omega), hr'.2⟩) (fun _ _ => rfl)
      · intro a2 w2 hB hF
        obtain ⟨b1, b2, b3, b4, b5⟩ := hB
        refine hbad a2 w2 ⟨b1, b2, ?_, b4, b5⟩ ?_
        · exact (hc'.trans (b3.wide (fun j hj => by simp only [] at hj; rcases hj with h | h | h; exact .inl h; exact .inr (by omega); exact .inr (by omega)))).wide (fun j hj => by rcases hj with h | h; exact .inl h; exact .inr (.inr (by omega)))
        · intro s hs x hx
          simp only [] at hx ⊢
          have hrl := H.rel.2
          rw [hs] at hrl
          simp only [hx] at hrl
          have : s0 = x.2 := by
            have := hs0.symm.trans hrl.1
            simpa using this
          subst this
          rw [hrow]
          have hnn : VO S2.acts (Xj S2.dfl) m s1 = none := by
            unfold ItR at hit
            cases hy : VO S2.acts (Xj S2.dfl) i s1 with
            | none => exact Yb8 _ _ _ i m hi hy
            | some y =>
              rw [hy] at hit
              refine Yb8 _ _ _ (i + 1) m hlt' ?_
              rw [Jj, hy]
              simp only [Option.bind_some]
              have := hF y.2 hit.1
              unfold XU at this
              rw [hno] at this
              cases hz : rdAs S2.acts (Xj S2.dfl) y.2 with
              | none => rfl
              | some u => exact (this u hz).elim
          rw [hnn]; rfl
    · have hd1 : decide ((i : Int) < (m : Int)) = false := by simpa using hlt'
      rw [hd1] at hbc
      have : i = m := by omega
      subst this
      refine wp_cond_false hbc (wp_exit ?_)
      show (if id = id then _ else _)
      rw [if_pos rfl]
      have hcells : YN w' hb 0 cells := hbox'.cells.left
      have hok : ∀ r', Dk sb (hb + 1) w' r' → Dk sb it.lo w' r' := fun r' hr' => ⟨by rcases hr'.1 with h | h; exact .inl h; exact .inr (by omega), hr'.2⟩
      have hrp' := hrp.up hok (fun _ _ => rfl)
      have hdk : Dk sb it.lo w' hb := ⟨.inr hbl, by omega⟩
      have hds : YX (Dk sb it.lo w') w' it.ds it.cs := hreps.up (fun r' hr' => ⟨hr'.1.1, by have := hr'.1.2; omega⟩) (fun r' hr' => hc'.block r' hr'.1.2 (by
        have h1 := hr'.1.1
        have h2 := hr'.2
        rintro (h | h) <;> omega))
      refine fin (if z.isSome then .sl false (dss.map (elD S2.st)) else .sq (dss.map (elD S2.st))) sti b w' kb (hc'.wide (fun j hj => by rcases hj with h | h; exact .inl h; exact .inr (by omega))) rfl rfl ?_ ?_ ?_ hrd hds
      · cases z with
        | none => exact ⟨some ⟨hb, 0, none⟩, cap, by simp [hdl], by simpa [hdl] using hcap, .inr ⟨hb, 0, cells, rfl, hdk, hcells, hrp'⟩⟩
        | some zi => exact ⟨some ⟨hb, 0, none⟩, cap, by simp [hdl], by simpa [hdl] using hcap, (fun h => by cases h), fun _ => ⟨hb, 0, cells, rfl, hdk, hcells, hrp'⟩⟩
      · cases z <;> rfl
      · rw [hrow]
        unfold ItR at hit
        cases hy : VO S2.acts (Xj S2.dfl) i s1 with
        | none => rw [hy] at hit; exact hit
        | some y =>
          rw [hy] at hit
          obtain ⟨h1, rfl⟩ := hit
          simp only [Option.map_some]
          refine ⟨h1, ?_⟩
          rw [if_neg (by omega : ¬ ((i : Int) < 0))]
  · have hm0 : l0.toNat = 0 := by omega
    rw [hm0] at hrow
    simp only [VO, Option.map_some, List.map_nil] at hrow
    have hdone : ∀ b, KnW N rb b V Ad R I → Q .normal b w := by
      intro b kb
      have hv := hnew.2 hpl
      cases z with
      | none =>
        simp only [] at hv
        subst hv
        refine fin (.sq []) (some s1) b w kb (Chg.refl _ _) rfl rfl ⟨none, 0, rfl, Nat.le_refl _, .inl rfl⟩ rfl ?_ H.rdr H.ds
        rw [hrow]; exact ⟨rfl, rfl⟩
      | some zi =>
        simp only [] at hv
        by_cases h0 : l0 = 0
        · obtain ⟨bb, hz, hdk, hcz⟩ := hzok.2 h0
          rw [hv] at hz
          simp only [Option.some.injEq] at hz
          subst hz
          refine fin (.sl false []) (some s1) b w kb (Chg.refl _ _) rfl rfl ⟨some ⟨bb, 0, none⟩, 0, rfl, Nat.le_refl _, (fun h => by cases h), fun _ => ⟨bb, 0, [], rfl, hdk, hcz, rfl⟩⟩ rfl ?_ H.rdr H.ds
          rw [hrow]; simp [h0]
        · have hz := hzok.1 h0
          rw [hv] at hz
          simp only [Option.some.injEq] at hz
          subst hz
          refine fin (.sl true []) (some s1) b w kb (Chg.refl _ _) rfl rfl ⟨none, 0, rfl, Nat.le_refl _, fun _ => ⟨rfl, rfl, rfl⟩, (fun h => by cases h)⟩ rfl ?_ H.rdr H.ds
          rw [hrow]
          have : l0 < 0 := by omega
          simp [this]
    refine wp_block (wp_loop_ghost (fun n a' w' => n = 0 ∧ a' = a ∧ w' = w) 0 ⟨rfl, rfl, rfl⟩ ?_)
    rintro n a' w' ⟨rfl, rfl, rfl⟩
    refine wp_seq (wp_seq (head_ok kn vx vy vc bx bY bc hgi (hgl _ kn) n1 n2 n3 n4 n5 (fun b kb hbi hbc => ?_)))
    rw [decide_eq_false hpl] at hbc
    refine wp_cond_false hbc (wp_exit ?_)
    show (if id = id then _ else _)
    rw [if_pos rfl]
    exact hdone b kb
end
end Go.Proofs.YtgjplodgdgaakaaGreatDoor

/- That the reading of code that VV tells the truth. Over any program. -/
namespace Go.Proofs.YtgjplodgdgaakaaGreatDoor
open Go Go.RowKit

section
variable {P : Program} {K : Kr} {N g rb sb : Nat} {ev : Value} {k : Nat} {rows : List (Nat × Nat × Nat)} {zs : List (Nat × List Value)} {S : RS} {Ad : List (Nat × Nat)} {R : List Value} {I : List Int} {it : Wi} {sst st0 st : Option (List UInt8)} {a : Act} {w : World}
theorem failsAt (H : RAt N g rb sb ev k rows zs S Ad R I it sst st0 none a w) : ∀ s, sst = some s → XU S s := by
  rintro s rfl x hx
  have hr := H.rel.2
  simp only [hx] at hr
  obtain ⟨rfl, _⟩ := hr
  have hp := H.pd
  split
  · rename_i e; rw [e] at hp; cases hp
  · rename_i e; rw [e] at hp
    obtain ⟨_, _, _, _, _, _, _, _, h⟩ := hp
    simp only [] at h
    split at h
    · cases h.1
    · assumption
  · rename_i e; rw [e] at hp
    obtain ⟨_, _, h, _⟩ := hp
    simp only [Uq] at h
    split at h
    · cases h.1
    · assumption
  · rename_i e; rw [e] at hp
    obtain ⟨_, _, _, _, h, _⟩ := hp
    cases h
  · rename_i e; rw [e] at hp
    obtain ⟨_, _, _, _, _, _, _, h, _⟩ := hp
    cases h
  · rename_i e; rw [e] at hp
    obtain ⟨_, _, _, _, _, _, _, h⟩ := hp
    simp only [] at h
    split at h
    · cases h.1
    · assumption
  · rename_i e; rw [e] at hp
    obtain ⟨_, _, _, _, _, h⟩ := hp
    simp only [Yk2] at h
    split at h
    · cases h.1
    · assumption
  · rename_i e; rw [e] at hp
    obtain ⟨_, _, _, _, _, _, _, hr, _⟩ := hp
    have h := hr.2.2
    simp only [] at h
    split at h
    · cases h.1
    · assumption
theorem fails_ok {S : RS} {c : Bool} {l : Nat} {z : Option Nat} {s : List UInt8} (h : XU S s) (hp : S.pd = .len c l z) : XU { S with pd := .ok c l z } s := by
  intro x hx
  have := h x hx
  rw [hp] at this
  exact this
theorem fails_lz {S : RS} {c : Bool} {l : Nat} {z : Option Nat} {s : List UInt8} (h : XU S s) (hp : S.pd = .len c l z) (A : WA) (H : List Hi) (z' : Option Nat) : XU { S with A := A, H := H, pd := .len c l z' } s := by
  intro x hx
  have := h x hx
  rw [hp] at this
  exact this
theorem fails_lp {S : RS} {c : Bool} {l r : Nat} {z z' : Option Nat} {s : List UInt8} (h : XU S s) (hp : S.pd = .ok c l z) (A : WA) (H : List Hi) : XU { S with A := A, H := H, pd := .made c l z' r } s := by
  intro x hx
  have := h x hx
  rw [hp] at this
  exact this
theorem fails_done {S : RS} {c : Bool} {l r : Nat} {z : Option Nat} {s : List UInt8} (h : XU S s) (hp : S.pd = .made c l z r) (A : WA) (nb stt : Bool) (dfl : List Value) (body : List Ra) : XU { S with A := A, pd := .done c nb r stt dfl body } s := by
  intro x hx
  have := h x hx
  rw [hp] at this
  simp only [] at this ⊢
  simp only [rowP, this, Option.bind_none]
theorem condR_fails {rs h : Nat} {a b : Code} {x : RS × List (Nat × List Value)} (e : condR K P N rs zs S h a b = some x) : ∀ s, XU S s → XU x.1 s := by
  intro s hf
  unfold condR at e
  split at e
  · rename_i c l z hh hpd
    cases hb : Nat.beq (h + 1) S.H.length && badR K P N rs S a with
    | false => rw [hb] at e; cases e
    | true =>
      rw [hb] at e
      cases e
      exact fails_ok hf hpd
  · rename_i hh hpd
    cases hb : Nat.beq _ _ with
    | false => rw [hb] at e; cases e
    | true =>
      rw [hb] at e
      simp only [cond_true] at e
      split at e
      · cases e
        exact fails_lz hf hpd _ _ _
      · cases e
  · rename_i hh hpd
    cases hb : Nat.beq _ _ with
    | false => rw [hb] at e; cases e
    | true =>
      rw [hb] at e
      simp only [cond_true] at e
      split at e
      · split at e
        · cases hz : optEq _ _ with
          | false => rw [hz] at e; cases e
          | true =>
            rw [hz] at e
            cases e
            exact fails_lp hf hpd _ _
        · cases e
      · cases e
  · cases e
theorem runR_fails {rs : Nat} : ∀ (n k : Nat) (rows : List (Nat × Nat × Nat)) (zs : List (Nat × List Value)) (S : RS) (c : Code) (S' : RS) (zs' : List (Nat × List Value)) (e : Bool), runR K P N rs n k rows zs S c = some (S', zs', e) → ∀ s, XU S s → XU S' s := by
  intro n
  induction n with
  | zero => intro k rows zs S c S' zs' e h; simp [runR] at h
  | succ n ih =>
    intro k rows zs S c S' zs' e h s hf
    unfold runR at h
    split at h
    · cases h; exact hf
    · split at h
      · split at h
        · cases hb : Nat.beq _ S.H.length && Nat.beq k 0 with
          | false => rw [hb] at h; cases h
          | true => rw [hb] at h; cases h; exact hf
        · cases h
      · cases h
    · split at h
      · rename_i S1 hx
        cases h
        exact opsR_fails _ _ hx hf
      · cases h
    · split at h
      · rename_i S1 zs1 h1
        exact ih _ _ _ _ _ _ _ _ h s (ih _ _ _ _ _ _ _ _ h1 s hf)
      · rename_i S1 zs1 h1
        cases h
        exact ih _ _ _ _ _ _ _ _ h1 s hf
      · cases h
    · split at h
      · exact ih _ _ _ _ _ _ _ _ h s hf
      · exact ih _ _ _ _ _ _ _ _ h s hf
      · split at h
        · rename_i x hx
          cases h
          exact condR_fails hx s hf
        · cases h
      · cases h
    · split at h
      · split at h
        · rename_i hpd
          cases hb : Nat.beq _ _ && isRes _ _ _ && i0 _ _ && Yb4 S.H with
          | false => rw [hb] at h; cases h
          | true =>
            rw [hb] at h
            simp only [cond_true] at h
            split at h
            · cases hc : bodyOk _ _ _ _ _ with
              | false => rw [hc] at h; cases h
              | true =>
                rw [hc] at h
                cases h
                exact fails_done hf hpd _ _ _ _ _
            · cases h
        · cases h
      · split at h
        · rename_i S1 zs1 h1
          cases h
          exact ih _ _ _ _ _ _ _ _ h1 s hf
        · cases h
    · cases h
end
end Go.Proofs.YtgjplodgdgaakaaGreatDoor

/- That the reading of code that VV tells the truth: the whole. Over any program. -/
namespace Go.Proofs.YtgjplodgdgaakaaGreatDoor
open Go Go.RowKit

theorem Yc3 {p q : Nat} (h : (!Nat.beq p q) = true) : p ≠ q := by
  rintro rfl
  rw [Nat.beq_refl] at h; cases h
theorem loopPat_out {N id : Nat} {b : Code} {q : Lp} (h : loopPat N id b = some q) : ∃ (r1 r2 : Nat) (t1 u2 t3 u3 ta tb tc td te tf : TypeId) (p1 p2 p3 p4 p5 p6 : String) (f1 f2 f3 f4 f5 f6 : Array Edge),
    b = .loop (.seq (.seq (.region r1 #[⟨some q.x, .move (.tmp q.i), ta, p1, f1, none⟩, ⟨some q.y, .move (.tmp q.l), tb, p2, f2, none⟩, ⟨some q.c, .binOp .lss t1 (.tmp q.x) (.tmp q.y) u2, tc, p3, f3, none⟩] false) (.cond (.tmp q.c) .skip (.exit id))) (.seq q.body (.region r2 #[⟨some q.u, .move (.tmp q.i), td, p4, f4, none⟩, ⟨some q.w, .binOp .add t3 (.tmp q.u) (.const (.int .i32 1)) u3, te, p5, f5, none⟩, ⟨some q.i, .assign (.tmp q.w), tf, p6, f6, none⟩] false))) ∧
    (Nat.blt q.x N = true ∧ Nat.blt q.y N = true ∧ Nat.blt q.c N = true ∧ Nat.blt q.u N = true ∧ Nat.blt q.w N = true ∧ Nat.blt q.i N = true) ∧ q.i ≠ q.x ∧ q.i ≠ q.y ∧ q.i ≠ q.c ∧ q.x ≠ q.y ∧ q.x ≠ q.l := by
  unfold loopPat at h
  split at h
  · rename_i r1 x1 i1 ta p1 f1 y1 l1 tb p2 f2 c1 t1 x2 y2 u2 tc p3 f3 c2 id2 body r2 u1 i2 td p4 f4 w1 t3 uu2 u3 te p5 f5 i3 w2 tf p6 f6
    cases hc : Nat.beq i1 i2 && Nat.beq i1 i3 && Nat.beq x1 x2 && Nat.beq y1 y2 && Nat.beq c1 c2 && Nat.beq u1 uu2 && Nat.beq w1 w2 && Nat.beq id id2 && Nat.blt x1 N && Nat.blt y1 N && Nat.blt c1 N && Nat.blt u1 N && Nat.blt w1 N && Nat.blt i1 N && !Nat.beq i1 x1 && !Nat.beq i1 y1 && !Nat.beq i1 c1 && !Nat.beq x1 y1 && !Nat.beq x1 l1 with
    | false => rw [hc] at h; cases h
    | true =>
      rw [hc] at h
      simp only [cond_true, Option.some.injEq] at h
      subst h
      simp only [Bool.and_eq_true] at hc
      obtain ⟨⟨⟨⟨⟨⟨⟨⟨⟨⟨⟨⟨⟨⟨⟨⟨⟨⟨g1, g2⟩, g3⟩, g4⟩, g5⟩, g6⟩, g7⟩, g8⟩, g9⟩, g10⟩, g11⟩, g12⟩, g13⟩, g14⟩, g15⟩, g16⟩, g17⟩, g18⟩, g19⟩ := hc
      have := Ys g1; subst this
      have := Ys g2; subst this
      have := Ys g3; subst this
      have := Ys g4; subst this
      have := Ys g5; subst this
      have := Ys g6; subst this
      have := Ys g7; subst this
      have := Ys g8; subst this
      exact ⟨r1, r2, t1, u2, t3, u3, ta, tb, tc, td, te, tf, p1, p2, p3, p4, p5, p6, f1, f2, f3, f4, f5, f6, rfl, ⟨g9, g10, g11, g12, g13, g14⟩, Yc3 g15, Yc3 g16, Yc3 g17, Yc3 g18, Yc3 g19⟩
  · cases h
theorem isRes_out {A : WA} {s l : Nat} (h : isRes A s l = true) : lkW A s = some (.res l) := by
  unfold isRes at h
  split at h
  · rename_i n hn; rw [hn, Ys h]
  · cases h
theorem isIdx_out {A : WA} {s l : Nat} (h : isIdx A s l = true) : lkW A s = some (.idx l) := by
  unfold isIdx at h
  split at h
  · rename_i n hn; rw [hn, Ys h]
  · cases h
theorem i0_out {A : WA} {t : Nat} (h : i0 A t = true) : lkW A t = some (.val (.int .i32 0)) := by
  unfold i0 at h
  split at h
  · assumption
  · cases h
theorem isNo_out {p : Pd} (h : isNo p = true) : p = .no := by cases p <;> first | rfl | cases h
theorem XZ (A : WA) (t : Nat) : lkW (Vd A t) t = none := by rw [Ye3, if_pos rfl]
theorem YR {A : WA} {t u : Nat} (h : lkW A u = none) : lkW (Vd A t) u = none := by
  rw [Ye3]
  split
  · rfl
  · exact h
theorem loopW_less (A : WA) (q : Lp) : Yl3 A (JQ A q) :=
  XD (XD (XD (XD (XD (XD (lessW_kept A) (XA _ _)) (XA _ _)) (XA _ _)) (XA _ _)) (XA _ _)) (XA _ _)
theorem Bad.wide {N g rb rs : Nat} {ev : Value} {it it' : Wi} {R R' : List Value} {w w' : World} (f : Fr rb it it' R R' w w') {a2 : Act} {w2 : World} (h : Bad N g rb ev rs it' w' a2 w2) : Bad N g rb ev rs it w a2 w2 := by
  obtain ⟨b1, b2, b3, b4, b5⟩ := h
  exact ⟨b1, b2, f.chg.trans (b3.wide (fun j hj => by rw [f.b, f.lo] at hj; exact hj)), b4, b5⟩
section
variable {P : Program} {K : Kr} {N g rb sb : Nat} {ev : Value}
theorem zs_free {k : Nat} {rows : List (Nat × Nat × Nat)} {zs zs' : List (Nat × List Value)} {S : RS} {Ad : List (Nat × Nat)} {R : List Value} {I : List Int} {it : Wi} {sst st0 st : Option (List UInt8)} {a : Act} {w : World} (H : RAt N g rb sb ev k rows zs S Ad R I it sst st0 st a w) (h : S.pd = .no) : RAt N g rb sb ev k rows zs' S Ad R I it sst st0 st a w := by
  have hp := H.pd
  refine ⟨H.kn, H.ho, H.last, H.ad, H.lens, H.row, H.box, H.ds, H.cl, H.sh, H.cells, H.rdr, ?_, H.fresh, H.rel, H.lo, H.ne, H.gl⟩
  rw [h] at hp ⊢
  exact hp
theorem condR_ok (hK : KrOk P K g ev) {k : Nat} {rows : List (Nat × Nat × Nat)} {zs : List (Nat × List Value)} {S : RS} {Ad : List (Nat × Nat)} {R : List Value} {I : List Int} {it : Wi} {sst st0 st : Option (List UInt8)} {a : Act} {w : World}
    {rs h : Nat} {q : Operand} {c d : Code} {x : RS × List (Nat × List Value)} (hq0 : evW S.A q = some (.res h)) (e : condR K P N rs zs S h c d = some x) (H : RAt N g rb sb ev k rows zs S Ad R I it sst st0 st a w) {Q : Exit → Act → World → Prop}
    (hq : ∀ R' it' st0' st' a' w', Fr rb it it' R R' w w' → RAt N g rb sb ev k rows x.2 x.1 Ad R' I it' sst st0' st' a' w' → Q .normal a' w')
    (hbad : ∀ a' w', Bad N g rb ev rs it w a' w' → (∀ s, sst = some s → XU x.1 s) → Q .ret a' w') : (Code.cond q c d).wp P Q a w := by
  unfold condR at e
  split at e
  · rename_i cc l z hh hpd
    cases hb : Nat.beq (h + 1) S.H.length && badR K P N rs S c with
    | false => rw [hb] at e; cases e
    | true =>
      rw [hb] at e
      simp only [cond_true, Option.some.injEq] at e
      subst e
      rw [Bool.and_eq_true] at hb
      have hlen := Ys hb.1
      have hv := H.kn.eval hq0
      simp only [VW] at hv
      have hl := H.last .nok (a.eval q) (by rw [← hlen, Nat.add_sub_cancel]; exact hh) (by rw [← hlen, Nat.add_sub_cancel]; exact hv)
      simp only [LastV] at hl
      cases st with
      | none =>
        refine wp_cond_true (by rw [hl]; rfl) (badR_ok hK H hb.2 rfl (fun a' w' hB => hbad a' w' hB ?_))
        exact fun s hs => fails_ok (failsAt H s hs) hpd
      | some s1 =>
        refine wp_cond_false (by rw [hl]; rfl) (wp_skip (hq R it st0 (some s1) a w (Fr.refl _ _ _ _) ?_))
        have hp := H.pd
        rw [hpd] at hp
        obtain ⟨l0, h1, h2, h3⟩ := hp
        exact ⟨H.kn, H.ho, H.last, H.ad, H.lens, H.row, H.box, H.ds, H.cl, H.sh, H.cells, H.rdr, ⟨l0, s1, h1, h2, rfl, h3⟩, H.fresh, H.rel, H.lo, H.ne, H.gl⟩
  · rename_i l' cc l hh hpd
    cases hb : Nat.beq l l' with
    | false => rw [hb] at e; cases e
    | true =>
      rw [hb] at e
      have := Ys hb; subst this
      simp only [cond_true] at e
      split at e
      · rename_i t u hn
        simp only [Option.some.injEq] at e
        subst e
        exact lz_ok H hq0 hh hpd hn (fun v a' w' f H' => hq _ _ _ _ a' w' f H')
      · cases e
  · rename_i l' cc l z hh hpd
    cases hb : Nat.beq l l' with
    | false => rw [hb] at e; cases e
    | true =>
      rw [hb] at e
      have := Ys hb; subst this
      simp only [cond_true] at e
      split at e
      · rename_i t xx y u z' ty hn hty
        split at e
        · rename_i zc hzc
          cases hz : optEq z z' with
          | false => rw [hz] at e; cases e
          | true =>
            rw [hz] at e
            simp only [cond_true, Option.some.injEq] at e
            subst e
            exact lp_ok H hq0 hh hpd hn hty hzc hz (fun v a' w' f H' => hq _ _ _ _ a' w' f H')
        · cases e
      · cases e
  · cases e
theorem runR_ok (hK : KrOk P K g ev) {rs : Nat} : ∀ (n k : Nat) (rows : List (Nat × Nat × Nat)) (zs : List (Nat × List Value)) (S : RS) (c : Code) (S' : RS) (zs' : List (Nat × List Value)) (e : Bool), runR K P N rs n k rows zs S c = some (S', zs', e) →
    ∀ (Ad : List (Nat × Nat)) (R : List Value) (I : List Int) (it : Wi) (sst st0 st : Option (List UInt8)) (a : Act) (w : World) (Q : Exit → Act → World → Prop), RAt N g rb sb ev k rows zs S Ad R I it sst st0 st a w →
      (∀ R' it' st0' st' a' w', Fr rb it it' R R' w w' → RAt N g rb sb ev k rows zs' S' Ad R' I it' sst st0' st' a' w' → (e = true → S'.pd = .no ∧ gt a' rs = endV ev st') → Q (if e then .ret else .normal) a' w') →
      (∀ a' w', Bad N g rb ev rs it w a' w' → (∀ s, sst = some s → XU S' s) → Q .ret a' w') → c.wp P Q a w := by
  intro n
  induction n with
  | zero => intro k rows zs S c S' zs' e h; simp [runR] at h
  | succ n ih =>
    intro k rows zs S c S' zs' e h Ad R I it sst st0 st a w Q H hq hbad
    unfold runR at h
    split at h
    · cases h
      exact wp_skip (hq R it st0 st a w (Fr.refl _ _ _ _) H (fun h => by cases h))
    · split at h
      · rename_i e0 hpd hrs
        split at h
        · rename_i her
          cases hb : Nat.beq (e0 + 1) S.H.length && Nat.beq k 0 with
          | false => rw [hb] at h; cases h
          | true =>
            rw [hb] at h
            cases h
            rw [Bool.and_eq_true] at hb
            have hlen := Ys hb.1
            have hv := H.kn.at_ rs _ hrs
            simp only [VW] at hv
            have hl := H.last .er (gt a rs) (by rw [← hlen, Nat.add_sub_cancel]; exact her) (by rw [← hlen, Nat.add_sub_cancel]; exact hv)
            exact wp_ret (hq R it st0 st a w (Fr.refl _ _ _ _) H (fun _ => ⟨hpd, hl⟩))
        · cases h
      · cases h
    · split at h
      · rename_i S1 hx
        cases h
        refine wp_region_lit (opsR_ok hK _ _ hx H (fun R' it' st0' st' a' w' f H' => hq R' it' st0' st' a' w' f H' (fun h => by cases h)))
      · cases h
    · split at h
      · rename_i S1 zs1 h1
        refine wp_seq (ih _ _ _ _ _ _ _ _ h1 Ad R I it sst st0 st a w _ H (fun R' it' st0' st' a' w' f H' _ => ?_) (fun a' w' hB hF => ?_))
        · exact ih _ _ _ _ _ _ _ _ h Ad R' I it' sst st0' st' a' w' Q H' (fun R'' it'' st0'' st'' a'' w'' f' H'' hr => hq R'' it'' st0'' st'' a'' w'' (f.trans f') H'' hr) (fun a'' w'' hB hF => hbad a'' w'' (hB.wide f) hF)
        · exact hbad a' w' hB (fun s hs => runR_fails _ _ _ _ _ _ _ _ _ h s (hF s hs))
      · rename_i S1 zs1 h1
        cases h
        exact wp_seq (ih _ _ _ _ _ _ _ _ h1 Ad R I it sst st0 st a w _ H (fun R' it' st0' st' a' w' f H' hr => hq R' it' st0' st' a' w' f H' hr) (fun a' w' hB hF => hbad a' w' hB hF))
      · cases h
    · split at h
      · rename_i hq0
        have hv := H.kn.eval hq0
        simp only [VW, Option.some.injEq] at hv
        exact wp_cond_true hv.symm (ih _ _ _ _ _ _ _ _ h Ad R I it sst st0 st a w Q H hq hbad)
      · rename_i hq0
        have hv := H.kn.eval hq0
        simp only [VW, Option.some.injEq] at hv
        exact wp_cond_false hv.symm (ih _ _ _ _ _ _ _ _ h Ad R I it sst st0 st a w Q H hq hbad)
      · rename_i h0 hq0
        split at h
        · rename_i x hx
          cases h
          exact condR_ok hK hq0 hx H (fun R' it' st0' st' a' w' f H' => hq R' it' st0' st' a' w' f H' (fun h => by cases h)) hbad
        · cases h
      · cases h
    · split at h
      · rename_i id b q hpat
        split at h
        · rename_i cc l z r r' zc zs0 hpd
          cases hb : Nat.beq r r' && isRes (JQ S.A q) q.l l && i0 S.A q.i && Yb4 S.H with
          | false => rw [hb] at h; cases h
          | true =>
            rw [hb] at h
            simp only [cond_true] at h
            split at h
            · rename_i S2 zs2 hrun
              cases hc : bodyOk (JQ S.A q) k q.i zc.length S2 with
              | false => rw [hc] at h; cases h
              | true =>
                rw [hc] at h
                cases h
                simp only [Bool.and_eq_true] at hb
                obtain ⟨⟨⟨g1, g2⟩, g3⟩, g4⟩ := hb
                have := Ys g1; subst this
                unfold bodyOk at hc
                simp only [Bool.and_eq_true] at hc
                obtain ⟨⟨⟨c1, c2⟩, c3⟩, c4⟩ := hc
                obtain ⟨r1, r2, t1, u2, t3, u3, ta, tb, tc, td, te, tf, p1, p2, p3, p4, p5, p6, f1, f2, f3, f4, f5, f6, rfl, ⟨b1, b2, b3, b4, b5, b6⟩, n1, n2, n3, n4, n5⟩ := loopPat_out hpat
                refine loopR_ok (V := JQ S.A q) (rs := rs) H hpd rfl g4 (loopW_less _ _) ?_ ?_ ?_ ?_ ?_ ?_ (isRes_out g2) (i0_out g3) b1 b2 b3 b4 b5 b6 n1 n2 n3 n4 n5 (lessW_within c1) (isIdx_out c2) (isNo_out c3) (Ys c4)
                  (fun Ad' R' I' it' st' a' w' Q' H' hq' hbad' => ih _ _ _ _ _ _ _ _ hrun Ad' R' I' it' st' st' st' a' w' Q' H' (fun R'' it'' st0'' st'' a'' w'' f H'' _ => hq' R'' it'' st0'' st'' a'' w'' f (zs_free H'' (isNo_out c3))) hbad')
                  (fun st' a' w' f H' => hq R it st0 st' a' w' f H' (fun h => by cases h)) hbad
                · unfold JQ
                  exact YR (YR (YR (YR (YR (XZ _ _)))))
                · unfold JQ
                  exact YR (YR (YR (YR (XZ _ _))))
                · unfold JQ
                  exact YR (YR (YR (XZ _ _)))
                · unfold JQ
                  exact YR (YR (XZ _ _))
                · unfold JQ
                  exact YR (XZ _ _)
                · unfold JQ
                  exact XZ _ _
            · cases h
        · cases h
      · rename_i id b hpat
        split at h
        · rename_i S1 zs1 h1
          cases h
          exact wp_block (ih _ _ _ _ _ _ _ _ h1 Ad R I it sst st0 st a w _ H (fun R' it' st0' st' a' w' f H' hr => hq R' it' st0' st' a' w' f H' hr) (fun a' w' hB hF => hbad a' w' hB hF))
        · cases h
    · cases h
end
end Go.Proofs.YtgjplodgdgaakaaGreatDoor

/- A whole function that VV. Over any program. -/
namespace Go.Proofs.YtgjplodgdgaakaaGreatDoor
open Go Go.RowKit

structure Hd where
  rs : Nat
  x : Nat
  y : Nat
  f : Nat
  u : Nat
  b : Nat
  r : Nat
  rest : Code
def distinct : List Nat → Bool
  | [] => true
  | x :: r => r.all (fun y => !Nat.beq x y) && distinct r
/-- The head of a function that VV: the result is nil, the defaults are set, the reader is made. -/
def headF (K : Kr) (N : Nat) : Code → Option Hd
  | .seq (.region _ ⟨[⟨some rs, .assign (.const .nilIface), _, _, _, none⟩]⟩ false) (.seq (.region _ ⟨[⟨some x, .move (.tmp 0), _, _, _, none⟩, ⟨some y, .call ⟨.value (.func f), ⟨[.tmp x2]⟩, _⟩, _, _, _, none⟩]⟩ false)
      (.seq (.region _ ⟨[⟨some u, .move (.tmp 1), _, _, _, none⟩, ⟨some b, .build tb ⟨[(0, .tmp u2)]⟩, _, _, _, none⟩, ⟨some r, .alloc ta, _, _, _, none⟩, ⟨none, .store ts (.tmp r2) (.tmp b2), _, _, _, none⟩]⟩ false) rest)) =>
    bif Nat.beq x x2 && Nat.beq u u2 && Nat.beq r r2 && Nat.beq b b2 && Nat.beq tb K.rty && Nat.beq ta K.rty && Nat.beq ts K.rty && [rs, x, y, u, b, r].all (fun t => Nat.blt t N) && distinct [0, 1, 2, rs, x, y, u, b, r] then some ⟨rs, x, y, f, u, b, r, rest⟩ else none
  | _ => none
def resIs (r : Array ResultVar) (t : Nat) : Bool := match r with
  | ⟨[.tmp u]⟩ => Nat.beq u t
  | _ => false
theorem resIs_out {r : Array ResultVar} {t : Nat} (h : resIs r t = true) : r = #[.tmp t] := by
  unfold resIs at h
  split at h
  · rw [Ys h]
  · cases h
def Yh4 (q : Hd) (cs : List Value) : RS := ⟨[(0, .at_ 0 0), (2, .val (.bool false)), (q.rs, .val .nilIface), (q.r, .rdr)], [], .no, cs.map some, shDs (Xj cs), true, cs, []⟩
/-- A function that VV: what it starts from, what it does. -/
def readF (P : Program) (K : Kr) (f : Nat) (cs : List Value) : Option (List Value × List Ra) := match P.funcs[f]? with
  | some fn => (match fn.body with
    | some c => (match headF K fn.ntmps c with
      | some q => bif Ut P f && resIs fn.results q.rs && Nat.ble 3 fn.ntmps then (match defF P q.f with
        | some l => (match setAll l cs with
          | some cs' => (match runR K P fn.ntmps q.rs 4000 0 [] [] (Yh4 q cs') q.rest with
            | some (S, _, true) => bif isNo S.pd then some (S.dfl, S.acts) else none
            | _ => none)
          | none => none)
        | none => none) else none
      | none => none)
    | none => none)
  | none => none
structure KrTy (P : Program) (K : Kr) : Prop where
  built : ∀ a n c, P.built K.rty [(0, .slice a n c)] = some #[.slice a n c, .bool false]
  zero : ∀ w : World, (zeroValue K.rty).run P w = .ok (.agg #[.slice none 0 0, .bool false]) w
  size : Ui P K.rty 2 = true
theorem headF_out {K : Kr} {N : Nat} {c : Code} {q : Hd} (h : headF K N c = some q) : ∃ (i1 i2 i3 : Nat) (ats : Array TypeId) (t1 t2 t3 t4 t5 t6 t7 : TypeId) (p1 p2 p3 p4 p5 p6 p7 : String) (f1 f2 f3 f4 f5 f6 f7 : Array Edge),
    c = .seq (.region i1 #[⟨some q.rs, .assign (.const .nilIface), t1, p1, f1, none⟩] false) (.seq (.region i2 #[⟨some q.x, .move (.tmp 0), t2, p2, f2, none⟩, ⟨some q.y, .call ⟨.value (.func q.f), #[.tmp q.x], ats⟩, t3, p3, f3, none⟩] false)
      (.seq (.region i3 #[⟨some q.u, .move (.tmp 1), t4, p4, f4, none⟩, ⟨some q.b, .build K.rty #[(0, .tmp q.u)], t5, p5, f5, none⟩, ⟨some q.r, .alloc K.rty, t6, p6, f6, none⟩, ⟨none, .store K.rty (.tmp q.r) (.tmp q.b), t7, p7, f7, none⟩] false) q.rest)) ∧
    (∀ t ∈ [q.rs, q.x, q.y, q.u, q.b, q.r], Nat.blt t N = true) ∧ distinct [0, 1, 2, q.rs, q.x, q.y, q.u, q.b, q.r] = true := by
  unfold headF at h
  split at h
  · rename_i i1 rs t1 p1 f1 i2 x t2 p2 f2 y f x2 ats t3 p3 f3 i3 u t4 p4 f4 b tb u2 t5 p5 f5 r ta t6 p6 f6 ts r2 b2 t7 p7 f7 rest
    cases hc : Nat.beq x x2 && Nat.beq u u2 && Nat.beq r r2 && Nat.beq b b2 && Nat.beq tb K.rty && Nat.beq ta K.rty && Nat.beq ts K.rty && [rs, x, y, u, b, r].all (fun t => Nat.blt t N) && distinct [0, 1, 2, rs, x, y, u, b, r] with
    | false => rw [hc] at h; cases h
    | true =>
      rw [hc] at h
      simp only [cond_true, Option.some.injEq] at h
      subst h
      simp only [Bool.and_eq_true] at hc
      obtain ⟨⟨⟨⟨⟨⟨⟨⟨g1, g2⟩, g3⟩, g4⟩, g5⟩, g6⟩, g7⟩, g8⟩, g9⟩ := hc
      have := Ys g1; subst this
      have := Ys g2; subst this
      have := Ys g3; subst this
      have := Ys g4; subst this
      have h5 := Ys g5; subst h5
      have h6 := Ys g6; subst h6
      have h7 := Ys g7; subst h7
      exact ⟨i1, i2, i3, ats, t1, t2, t3, t4, t5, t6, t7, p1, p2, p3, p4, p5, p6, p7, f1, f2, f3, f4, f5, f6, f7, rfl, fun t ht => List.all_eq_true.1 g8 t ht, g9⟩
  · cases h
theorem distinct_out : ∀ {l : List Nat}, distinct l = true → l.Pairwise (· ≠ ·)
  | [], _ => .nil
  | x :: r, h => by
    simp only [distinct, Bool.and_eq_true, List.all_eq_true] at h
    exact .cons (fun y hy => Yc3 (h.1 y hy)) (distinct_out h.2)
/-- A slice that holds these octets, in the block sb. -/
def SrcAt (w : World) (sb : Nat) (v : Value) (s : List UInt8) : Prop := s.length ≤ srcLim ∧ ((v = .slice none 0 0 ∧ s = []) ∨ ∃ o c, v = .slice (some ⟨sb, o, none⟩) s.length c ∧ s.length ≤ c ∧ YN w sb o (bv s))
section
variable {P : Program} {K : Kr} {g : Nat} {ev : Value} {w : World}
theorem startS_ok {q : Hd} {cs : List Value} {N rb sb b lo : Nat} {e : TypeId} {s : List UInt8} {a : Act} (kn : KnW N rb a [(0, .at_ 0 0), (2, .val (.bool false)), (q.rs, .val .nilIface), (q.r, .rdr)] [(b, 0)] [] [0]) (hb : Box w b cs e) (hr : Rdr w rb sb (some s))
    (l1 : b < lo) (l2 : rb < lo) (l3 : sb < lo) (l4 : lo ≤ w.heap.size) (n1 : rb ≠ sb) (n2 : b ≠ rb) (n3 : b ≠ sb) (hg : w.cell? ⟨g, 0, none⟩ = some ev) (g1 : g ≠ rb) (g2 : g < lo) (g3 : g ≠ b) :
    RAt N g rb sb ev 0 [] [] (Yh4 q cs) [(b, 0)] [] [0] ⟨b, lo, [], [], cs, e, Xj cs⟩ (some s) (some s) (some s) a w := by
  refine ⟨kn, ⟨rfl, (fun n h v hh => by simp [Yh4] at hh)⟩, (fun h v hh => by simp [Yh4] at hh), rfl, ⟨rfl, rfl⟩, (fun q rest hq => by cases hq), by simpa using hb, Ve _, by simp [Yh4], ⟨rfl, ?_⟩, ?_, hr, rfl, fun _ => ⟨rfl, rfl⟩, ⟨rfl, by simp [Yh4, rdAs]⟩, ⟨l1, l2, l3, l4⟩, ⟨n1, n2, n3⟩, hg, g1, g2, g3⟩
  · intro d hd
    simp only [Xj, List.mem_map] at hd
    obtain ⟨u, _, rfl⟩ := hd
    rfl
  · intro j u hj
    simp only [Yh4, List.getElem?_map, Option.map_eq_some_iff] at hj
    obtain ⟨u', hu, he⟩ := hj
    cases he
    exact hu
theorem start_act {a : Act} {N : Nat} {v0 v1 v2 : Value} {c : Code} {Q : Exit → Act → World → Prop} (h : a.tmps.size = N ∧ a.defers = [] ∧ gt a 0 = v0 ∧ gt a 1 = v1 ∧ gt a 2 = v2) (k : ∀ a0 : Act, (a0.tmps.size = N ∧ a0.defers = [] ∧ gt a0 0 = v0 ∧ gt a0 1 = v1 ∧ gt a0 2 = v2) → c.wp P Q a0 w) : c.wp P Q a w := k a h
theorem readF_ok (hK : KrOk P K g ev) (hT : KrTy P K) {f : Nat} {cs dfl : List Value} {acts : List Ra} (h : readF P K f cs = some (dfl, acts)) {b sb : Nat} {e : TypeId} {v : Value} {s s' : List UInt8} {ds : List D} (hb : Box w b cs e) (hv : SrcAt w sb v s) (hsb : sb < w.heap.size) (hne : b ≠ sb)
    (hg : w.cell? ⟨g, 0, none⟩ = some ev) (hgb : g ≠ b) (hgl : g < w.heap.size) (hs : rdAs acts (Xj dfl) s = some (ds, s')) :
    Ut P f = true ∧ Calls P f #[.pointer (some ⟨b, 0, none⟩), v, .bool false] w fun en w' => en = .returned .nilIface ∧ ∃ cs' lo, w.heap.size ≤ lo ∧ Box w' b cs' e ∧ YX (Dk sb lo w') w' ds cs' ∧ shDs ds = shDs (Xj dfl) ∧ Chg (fun j => j = b ∨ w.heap.size ≤ j) w w' := by
  unfold readF at h
  split at h
  · rename_i fn hfn
    split at h
    · rename_i c hbody
      split at h
      · rename_i q hq
        cases hc : Ut P f && resIs fn.results q.rs && Nat.ble 3 fn.ntmps with
        | false => rw [hc] at h; cases h
        | true =>
          rw [hc] at h
          simp only [cond_true] at h
          simp only [Bool.and_eq_true] at hc
          obtain ⟨⟨hf, hres⟩, hn⟩ := hc
          have hres := resIs_out hres
          have hn3 : 3 ≤ fn.ntmps := Nat.le_of_ble_eq_true hn
          split at h
          · rename_i l hl
            split at h
            · rename_i cs1 hset
              split at h
              · rename_i S zs hrun
                cases hno : isNo S.pd with
                | false => rw [hno] at h; cases h
                | true =>
                rw [hno] at h
                simp only [cond_true, Option.some.injEq, Prod.mk.injEq] at h
                obtain ⟨h1, h2⟩ := h
                have hnp := isNo_out hno
                obtain ⟨i1, i2, i3, ats, t1, t2, t3, t4, t5, t6, t7, p1, p2, p3, p4, p5, p6, p7, f1, f2, f3, f4, f5, f6, f7, rfl, hlt, hdis⟩ := headF_out hq
                simp only [List.mem_cons, List.not_mem_nil, or_false, forall_eq_or_imp, forall_eq] at hlt
                obtain ⟨b1, b2, b3, b4, b5, b6⟩ := hlt
                have hd := distinct_out hdis
                simp only [List.pairwise_cons, List.mem_cons, List.not_mem_nil, or_false, forall_eq_or_imp, forall_eq] at hd
                obtain ⟨⟨_, _, d03, d04, d05, d06, d07, d08⟩, ⟨_, d13, d14, d15, d16, d17, d18⟩, ⟨d23, d24, d25, d26, d27, d28⟩, ⟨d34, d35, d36, d37, d38⟩, ⟨d45, d46, d47, d48⟩, ⟨d56, d57, d58⟩, ⟨d67, d68⟩, d78, _⟩ := hd
                refine ⟨hf, calls_of_wp hfn hbody ?_⟩
                refine start_act (N := fn.ntmps) (v0 := .pointer (some ⟨b, 0, none⟩)) (v1 := v) (v2 := .bool false) ?_ ?_
                · refine ⟨by simp; omega, rfl, ?_, ?_, ?_⟩ <;>
                  · simp only [gt, Array.getD_eq_getD_getElem?]
                    rw [Array.getElem?_append_left (by simp)]; rfl
                intro a0 z
                obtain ⟨z0, z1, z2, z3, z4⟩ := z
                have le_of : ∀ {t : Nat}, Nat.blt t fn.ntmps = true → t < fn.ntmps := fun h => Nat.le_of_ble_eq_true h
                -- the result
                refine wp_seq (wp_region_lit (Vt ?_))
                show wpList P _ _ [] (a0.put (some q.rs) .nilIface) w
                obtain ⟨a1, ha1⟩ : ∃ a1 : Act, a1 = a0.put (some q.rs) .nilIface := ⟨_, rfl⟩
                rw [← ha1]
                have z' : a1.tmps.size = fn.ntmps ∧ a1.defers = [] ∧ gt a1 0 = .pointer (some ⟨b, 0, none⟩) ∧ gt a1 1 = v ∧ gt a1 2 = .bool false ∧ gt a1 q.rs = .nilIface := by
                  subst ha1
                  exact ⟨by rw [Xd]; exact z0, by rw [YP]; exact z1, by rw [Yy _ _ _ _ d03]; exact z2, by rw [Yy _ _ _ _ d13]; exact z3, by rw [Yy _ _ _ _ d23]; exact z4, Yw _ _ _ (by rw [z0]; exact le_of b1)⟩
                clear ha1 z0 z1 z2 z3 z4
                obtain ⟨z0, z1, z2, z3, z4, z5⟩ := z'
                -- the defaults
                refine wp_seq (wp_region_lit (Vn ?_))
                rw [Xf, z2]
                obtain ⟨a2, ha2⟩ : ∃ a2 : Act, a2 = a1.put (some q.x) (.pointer (some ⟨b, 0, none⟩)) := ⟨_, rfl⟩
                rw [← ha2]
                have z' : a2.tmps.size = fn.ntmps ∧ a2.defers = [] ∧ gt a2 0 = .pointer (some ⟨b, 0, none⟩) ∧ gt a2 1 = v ∧ gt a2 2 = .bool false ∧ gt a2 q.rs = .nilIface ∧ gt a2 q.x = .pointer (some ⟨b, 0, none⟩) := by
                  subst ha2
                  exact ⟨by rw [Xd]; exact z0, by rw [YP]; exact z1, by rw [Yy _ _ _ _ d04]; exact z2, by rw [Yy _ _ _ _ d14]; exact z3, by rw [Yy _ _ _ _ d24]; exact z4, by rw [Yy _ _ _ _ d34]; exact z5, Yw _ _ _ (by rw [z0]; exact le_of b2)⟩
                clear ha2 z0 z1 z2 z3 z4 z5
                obtain ⟨z0, z1, z2, z3, z4, z5, z6⟩ := z'
                have hdef := defF_ok (w := w) hl (b := b) (pre := []) (cs := cs) (post := []) (e := e) (by simpa using hb) hset
                refine VU hdef.1 ?_
                have ea : (#[.tmp q.x] : Array Operand).map a2.eval = #[.pointer (some ⟨b, 0, none⟩)] := by simp only [List.map_toArray, List.map_cons, List.map_nil, Xf, z6]
                rw [ea]
                refine hdef.2.mono (fun en w1 he => ?_)
                obtain ⟨rfl, hb1, hc1⟩ := he
                refine ⟨_, rfl, ?_⟩
                show Code.wp P _ _ _ _
                obtain ⟨a3, ha3⟩ : ∃ a3 : Act, a3 = a2.put (some q.y) (.tuple #[]) := ⟨_, rfl⟩
                rw [← ha3]
                have z' : a3.tmps.size = fn.ntmps ∧ a3.defers = [] ∧ gt a3 0 = .pointer (some ⟨b, 0, none⟩) ∧ gt a3 1 = v ∧ gt a3 2 = .bool false ∧ gt a3 q.rs = .nilIface := by
                  subst ha3
                  exact ⟨by rw [Xd]; exact z0, by rw [YP]; exact z1, by rw [Yy _ _ _ _ d05]; exact z2, by rw [Yy _ _ _ _ d15]; exact z3, by rw [Yy _ _ _ _ d25]; exact z4, by rw [Yy _ _ _ _ d35]; exact z5⟩
                clear ha3 z0 z1 z2 z3 z4 z5 z6
                obtain ⟨z0, z1, z2, z3, z4, z5⟩ := z'
                -- the reader
                obtain ⟨aa, nn, cc, hvs⟩ : ∃ aa nn cc, v = .slice aa nn cc := by
                  rcases hv.2 with ⟨rfl, _⟩ | ⟨o, c, rfl, _⟩
                  · exact ⟨_, _, _, rfl⟩
                  · exact ⟨_, _, _, rfl⟩
                refine wp_seq (wp_region_lit (Vn ?_))
                rw [Xf, z3]
                obtain ⟨a4, ha4⟩ : ∃ a4 : Act, a4 = a3.put (some q.u) v := ⟨_, rfl⟩
                rw [← ha4]
                have z' : a4.tmps.size = fn.ntmps ∧ a4.defers = [] ∧ gt a4 0 = .pointer (some ⟨b, 0, none⟩) ∧ gt a4 2 = .bool false ∧ gt a4 q.rs = .nilIface ∧ gt a4 q.u = v := by
                  subst ha4
                  exact ⟨by rw [Xd]; exact z0, by rw [YP]; exact z1, by rw [Yy _ _ _ _ d06]; exact z2, by rw [Yy _ _ _ _ d26]; exact z4, by rw [Yy _ _ _ _ d36]; exact z5, Yw _ _ _ (by rw [z0]; exact le_of b4)⟩
                clear ha4 z0 z1 z2 z3 z4 z5
                obtain ⟨z0, z1, z2, z4, z5, z6⟩ := z'
                have hbuilt := run_build (P := P) w1 K.rty (#[(0, .tmp q.u)].map fun x => (x.1, a4.eval x.2)) #[v, .bool false] (by
                  simp only [List.map_toArray, List.map_cons, List.map_nil, Xf, z6]
                  rw [hvs]; exact hT.built aa nn cc)
                refine YS (o := ⟨some q.b, .build K.rty #[(0, .tmp q.u)], t5, p5, f5, none⟩) (v := .agg #[v, .bool false]) (w' := w1) rfl (by simp only [execOp, Sem.run_bind, hbuilt, Result.andThen_ok, Sem.run_pure]) ?_
                obtain ⟨a5, ha5⟩ : ∃ a5 : Act, a5 = a4.put (some q.b) (.agg #[v, .bool false]) := ⟨_, rfl⟩
                show wpList P _ _ _ (a4.put (some q.b) (.agg #[v, .bool false])) w1
                rw [← ha5]
                have z' : a5.tmps.size = fn.ntmps ∧ a5.defers = [] ∧ gt a5 0 = .pointer (some ⟨b, 0, none⟩) ∧ gt a5 2 = .bool false ∧ gt a5 q.rs = .nilIface ∧ gt a5 q.b = .agg #[v, .bool false] := by
                  subst ha5
                  exact ⟨by rw [Xd]; exact z0, by rw [YP]; exact z1, by rw [Yy _ _ _ _ d07]; exact z2, by rw [Yy _ _ _ _ d27]; exact z4, by rw [Yy _ _ _ _ d37]; exact z5, Yw _ _ _ (by rw [z0]; exact le_of b5)⟩
                clear ha5 z0 z1 z2 z4 z5 z6
                obtain ⟨z0, z1, z2, z4, z5, z6⟩ := z'
                refine YS (o := ⟨some q.r, .alloc K.rty, t6, p6, f6, none⟩) (v := .pointer (some ⟨w1.heap.size, 0, none⟩)) (w' := w1.alloc (.cells #[.slice none 0 0, .bool false] K.rty)) rfl (by simp [execOp, Instr.alloc, hT.zero, newVar, newRow, Value.cells]) ?_
                obtain ⟨a6, ha6⟩ : ∃ a6 : Act, a6 = a5.put (some q.r) (.pointer (some ⟨w1.heap.size, 0, none⟩)) := ⟨_, rfl⟩
                show wpList P _ _ _ (a5.put (some q.r) (.pointer (some ⟨w1.heap.size, 0, none⟩))) _
                rw [← ha6]
                have z' : a6.tmps.size = fn.ntmps ∧ a6.defers = [] ∧ gt a6 0 = .pointer (some ⟨b, 0, none⟩) ∧ gt a6 2 = .bool false ∧ gt a6 q.rs = .nilIface ∧ gt a6 q.b = .agg #[v, .bool false] ∧ gt a6 q.r = .pointer (some ⟨w1.heap.size, 0, none⟩) := by
                  subst ha6
                  exact ⟨by rw [Xd]; exact z0, by rw [YP]; exact z1, by rw [Yy _ _ _ _ d08]; exact z2, by rw [Yy _ _ _ _ d28]; exact z4, by rw [Yy _ _ _ _ d38]; exact z5, by rw [Yy _ _ _ _ d78]; exact z6, Yw _ _ _ (by rw [z0]; exact le_of b6)⟩
                clear ha6 z0 z1 z2 z4 z5 z6
                obtain ⟨z0, z1, z2, z4, z5, z6, z7⟩ := z'
                have hbx : Box (w1.alloc (.cells #[.slice none 0 0, .bool false] K.rty)) w1.heap.size [.slice none 0 0, .bool false] K.rty := VN w1 _ _
                have hal : Chg (fun _ => False) w1 (w1.alloc (.cells #[.slice none 0 0, .bool false] K.rty)) := Uf w1 _ _
                have hsz2 : (w1.alloc (.cells #[.slice none 0 0, .bool false] K.rty)).heap.size = w1.heap.size + 1 := by simp
                generalize w1.alloc (.cells #[.slice none 0 0, .bool false] K.rty) = w2 at hbx hal hsz2 ⊢
                refine Jv (b := w1.heap.size) (off := 0) (A := []) (C := []) (seg := [.slice none 0 0, .bool false]) (vs := [v, .bool false]) (by rw [Xf, z7]) (by rw [Xf, z6]) (by simp [Value.cells]) hT.size (by rw [hvs]; rfl) (by simpa using hbx) rfl rfl (fun w3 hb3 hg3 => ?_)
                have hc3 : Chg (· = w1.heap.size) w2 w3 := Chg.grown hg3
                have hsz := hc1.size
                have hbsz := hb.lt
                have cc : Chg (fun j => j = b ∨ j = w1.heap.size) w w3 := (hc1.wide (fun j hj => .inl hj)).trans ((hal.wide (fun j hj => hj.elim)).trans (hc3.wide (fun j hj => .inr hj)))
                have hb3' : Box w3 w1.heap.size [v, .bool false] K.rty := by simpa using hb3
                have hbb : Box w3 b cs1 e := ((by simpa using hb1 : Box w1 b cs1 e).chg hal id).chg hc3 (by omega)
                have hrdr : Rdr w3 w1.heap.size sb (some s) := by
                  refine ⟨v, K.rty, hb3', hv.1, ?_⟩
                  rcases hv.2 with h | ⟨o, c, e1, e2, e3⟩
                  · exact .inl h
                  · exact .inr ⟨o, c, e1, e2, e3.chg cc (by rintro (h | h); exact hne h.symm; omega)⟩
                have hgg : w3.cell? ⟨g, 0, none⟩ = some ev := by
                  have hg3' : w3.heap[g]? = w.heap[g]? := cc.block g hgl (by rintro (h | h); exact hgb h; omega)
                  simp only [World.cell?] at hg ⊢
                  rw [hg3']; exact hg
                have kn : KnW fn.ntmps w1.heap.size (a6.put none undef) [(0, .at_ 0 0), (2, .val (.bool false)), (q.rs, .val .nilIface), (q.r, .rdr)] [(b, 0)] [] [0] := by
                  refine ⟨z0, z1, fun t x e => ?_⟩
                  have e' := lkW_mem e
                  simp only [List.mem_cons, List.not_mem_nil, or_false, Prod.mk.injEq] at e'
                  show _ = some (gt a6 t)
                  rcases e' with ⟨rfl, rfl⟩ | ⟨rfl, rfl⟩ | ⟨rfl, rfl⟩ | ⟨rfl, rfl⟩
                  · rw [z2]; rfl
                  · rw [z4]; rfl
                  · rw [z5]; rfl
                  · rw [z7]; rfl
                have hst := startS_ok (g := g) (ev := ev) (lo := w1.heap.size + 1) kn hbb hrdr (by omega) (by omega) (by omega) (by have := hc3.size; omega) (by omega) (by omega) hne hgg (by omega) (by omega) hgb
                have hs3 := hc3.size
                refine runR_ok hK _ _ _ _ _ _ _ _ _ hrun _ _ _ _ _ _ _ _ _ _ hst ?_ ?_
                · intro R' it' st0' st' a' w' f H' hr
                  obtain ⟨hpd, hrs⟩ := hr rfl
                  have hp := H'.pd
                  rw [hpd] at hp
                  have hp' : st' = st0' := hp
                  subst hp'
                  have hrel := H'.rel
                  rw [h1, h2] at hrel
                  obtain ⟨hsh, hrel⟩ := hrel
                  simp only [hs] at hrel
                  obtain ⟨hst', hds⟩ := hrel
                  refine ⟨H'.kn.defers, .nilIface, ?_, rfl, it'.cs, w1.heap.size + 1, by omega, ?_, ?_, ?_, ?_⟩
                  · rw [results_tmp hres]
                    have : gt a' q.rs = .nilIface := by rw [hrs, hst']; rfl
                    simp only [gt] at this
                    rw [this]
                  · have := H'.box
                    rw [f.b, f.pre, f.post, f.e] at this
                    simpa using this
                  · have := H'.ds
                    rw [hds, f.lo] at this
                    exact this
                  · rw [← hds]; exact hsh
                  · exact (cc.wide (fun j hj => by rcases hj with h | h; exact .inl h; exact .inr (by omega))).trans (f.chg.wide (fun j hj => by simp only [] at hj; rcases hj with h | h | h; exact .inr (by omega); exact .inl h; exact .inr (by omega)))
                · intro a' w' hB hF
                  have := hF s rfl
                  unfold XU at this
                  have h3 := this (ds, s') (by rw [h1, h2]; exact hs)
                  rw [hnp] at h3
                  exact h3.elim
              · cases h
            · cases h
          · cases h
      · cases h
    · cases h
  · cases h
end
end Go.Proofs.YtgjplodgdgaakaaGreatDoor

/- The package's reader: its cells, what it has before it. Over any program. -/
namespace Go.Proofs.YtgjplodgdgaakaaGreatDoor
open Go Go.RowKit

def Jy (w : World) (sb : Nat) (v : Value) (s : List UInt8) : Prop := (v = .slice none 0 0 ∧ s = []) ∨ ∃ o c, v = .slice (some ⟨sb, o, none⟩) s.length c ∧ s.length ≤ c ∧ YN w sb o (bv s)
theorem Rdr.view {w : World} {rb sb : Nat} {st : Option (List UInt8)} (h : Rdr w rb sb st) : ∃ a c s e, Box w rb [.slice a s.length c, .bool st.isNone] e ∧ s.length ≤ c ∧ s.length ≤ srcLim ∧ Jy w sb (.slice a s.length c) s ∧ ((st = none ∧ s = [] ∧ a = none ∧ c = 0) ∨ st = some s) := by
  cases st with
  | none =>
    obtain ⟨e, h⟩ := h
    exact ⟨none, 0, [], e, h, Nat.le_refl _, Nat.zero_le _, .inl ⟨rfl, rfl⟩, .inl ⟨rfl, rfl, rfl, rfl⟩⟩
  | some s =>
    obtain ⟨v, e, hb, hl, hv⟩ := h
    rcases hv with ⟨rfl, rfl⟩ | ⟨o, c, rfl, hle, hc⟩
    · exact ⟨none, 0, [], e, hb, Nat.le_refl _, Nat.zero_le _, .inl ⟨rfl, rfl⟩, .inr rfl⟩
    · exact ⟨some ⟨sb, o, none⟩, c, s, e, hb, hle, hl, .inr ⟨o, c, rfl, hle, hc⟩, .inr rfl⟩
theorem Jy.rdr {w : World} {rb sb : Nat} {v : Value} {s : List UInt8} {e : TypeId} (h : Jy w sb v s) (hb : Box w rb [v, .bool false] e) (hl : s.length ≤ srcLim) : Rdr w rb sb (some s) := ⟨v, e, hb, hl, h⟩
theorem Jy.chg {S : Nat → Prop} {w w' : World} {sb : Nat} {v : Value} {s : List UInt8} (h : Jy w sb v s) (hc : Chg S w w') (hs : ¬ S sb) : Jy w' sb v s := by
  rcases h with h | ⟨o, c, e, hle, hcs⟩
  · exact .inl h
  · exact .inr ⟨o, c, e, hle, hcs.chg hc hs⟩
theorem bv_take (s : List UInt8) (m : Nat) : bv (s.take m) = (bv s).take m := by simp [bv]
theorem bv_drop (s : List UInt8) (m : Nat) : bv (s.drop m) = (bv s).drop m := by simp [bv]
theorem bv_len (s : List UInt8) : (bv s).length = s.length := by simp [bv]
theorem Jy.drop {w : World} {sb : Nat} {a : Option Addr} {c m : Nat} {s : List UInt8} (h : Jy w sb (.slice a s.length c) s) (hm : m ≤ s.length) : Jy w sb (.slice (if c = m then a else a.map (·.add m)) (s.length - m) (c - m)) (s.drop m) := by
  rcases h with ⟨e, rfl⟩ | ⟨o, c', e, hle, hcs⟩
  · simp only [Value.slice.injEq] at e
    obtain ⟨rfl, _, rfl⟩ := e
    simp only [List.length_nil, Nat.le_zero] at hm
    subst hm
    exact .inl ⟨by simp, rfl⟩
  · simp only [Value.slice.injEq, true_and] at e
    obtain ⟨rfl, rfl⟩ := e
    have hcs' : YN w sb (o + m) (bv (s.drop m)) := by
      have h1 : bv s = (bv s).take m ++ (bv s).drop m := (List.take_append_drop _ _).symm
      rw [h1] at hcs
      have := hcs.right
      rw [List.length_take, bv_len, Nat.min_eq_left hm, ← bv_drop] at this
      exact this
    by_cases hcm : c = m
    · subst hcm
      have : s.drop c = [] := List.drop_eq_nil_of_le hle
      right
      refine ⟨o, 0, ?_, by simp [this], ?_⟩
      · simp only [if_true, Nat.sub_self, List.length_drop]
      · rw [this]
        obtain ⟨arr, e, fz, h1, h2, h3⟩ := hcs
        exact ⟨arr, e, fz, h1, by simp [bv]; omega, fun i v hv => by simp [bv] at hv⟩
    · right
      refine ⟨o + m, c - m, ?_, by simp; omega, hcs'⟩
      simp [hcm, Addr.add]
theorem Jy.take {w : World} {sb : Nat} {a : Option Addr} {c m : Nat} {s : List UInt8} (h : Jy w sb (.slice a s.length c) s) (hm : m ≤ s.length) : Jy w sb (.slice a m m) (s.take m) := by
  rcases h with ⟨e, rfl⟩ | ⟨o, c', e, hle, hcs⟩
  · simp only [Value.slice.injEq] at e
    obtain ⟨rfl, _, rfl⟩ := e
    simp only [List.length_nil, Nat.le_zero] at hm
    subst hm
    exact .inl ⟨rfl, rfl⟩
  · simp only [Value.slice.injEq, true_and] at e
    obtain ⟨rfl, rfl⟩ := e
    right
    have hl : (s.take m).length = m := by simp; omega
    refine ⟨o, m, by rw [hl], by rw [hl]; exact Nat.le_refl _, ?_⟩
    have h1 : bv s = bv (s.take m) ++ (bv s).drop m := by rw [bv_take]; exact (List.take_append_drop _ _).symm
    rw [h1] at hcs
    exact hcs.left
theorem Jy.cell {w : World} {sb : Nat} {a : Option Addr} {c i : Nat} {s : List UInt8} (h : Jy w sb (.slice a s.length c) s) (hi : i < s.length) : ∃ o, a = some ⟨sb, o, none⟩ ∧ w.cell? ⟨sb, o + i * 1, none⟩ = some (.int .u8 s[i].toNat) := by
  rcases h with ⟨e, rfl⟩ | ⟨o, c', e, hle, hcs⟩
  · cases hi
  · simp only [Value.slice.injEq, true_and] at e
    obtain ⟨rfl, rfl⟩ := e
    refine ⟨o, rfl, ?_⟩
    rw [Nat.mul_one]
    exact hcs.cell (by simp [bv, hi])
theorem Jy.sq {w : World} {sb lo : Nat} {v : Value} {s : List UInt8} (h : Jy w sb v s) (hs : sb < w.heap.size) : Rep (Dk sb lo w) w (.sq (s.map byteD)) [v] := by
  simp only [Rep, List.length_map]
  rcases h with ⟨rfl, rfl⟩ | ⟨o, c, rfl, hle, hcs⟩
  · exact ⟨none, 0, rfl, Nat.le_refl _, .inl rfl⟩
  · exact ⟨_, c, rfl, hle, .inr ⟨sb, o, bv s, rfl, ⟨.inl rfl, hs⟩, hcs, (Vq s _).2 rfl⟩⟩
/-- What is told of a function of the reader's that VV. -/
def RdC (P : Program) (f : Nat) (p : Rp) : Prop := ∀ (w : World) (rb sb lo : Nat) (st : Option (List UInt8)), Rdr w rb sb st → rb < lo → sb < lo → lo ≤ w.heap.size → rb ≠ sb →
    Calls P f #[.pointer (some ⟨rb, 0, none⟩)] w fun e w' => ∃ v nd st', e = .returned v ∧ Chg (· = rb) w w' ∧ Rdr w' rb sb st' ∧ YX (Dk sb lo w') w' nd v.cells.toList ∧ (v.cells.toList.all fun v => v.oneCell') = true ∧ ((shR p).length = 1 → v.cells = #[v]) ∧ Yd9 p st nd st'
def LenC (P : Program) (f : Nat) (c : Bool) : Prop := ∀ (w : World) (rb sb lo : Nat) (st : Option (List UInt8)), Rdr w rb sb st → rb < lo → sb < lo → lo ≤ w.heap.size → rb ≠ sb →
    Calls P f #[.pointer (some ⟨rb, 0, none⟩)] w fun e w' => ∃ l st', e = .returned (.int .i32 l) ∧ Chg (· = rb) w w' ∧ Rdr w' rb sb st' ∧ Uq c st l st'
section
variable {P : Program} {ops : Array Oper} {Q : Exit → Act → World → Prop} {N : Nat} {rest : List Oper} {L : Sl} {w : World} {d : Nat} {ty : TypeId} {pos : String} {aft : Array Edge}
theorem UA {x y : Operand} {t : TypeId} {a : Option Addr} {n c m : Nat} {kk : IntKind} (hx : ev L x = some (.slice a n c)) (hy : ev L y = some (.int kk (m : Int))) (ht : YH P t = some 1) (hd : Nat.blt d N = true) (hm : m ≤ n)
    (h : WL rest P ops Q N ((d, .slice (if c = m then a else a.map (·.add m)) (n - m) (c - m)) :: L) w) : WL (⟨some d, .slice t x (some y) none none, ty, pos, aft, none⟩ :: rest) P ops Q N L w := by
  intro b k
  refine YS (o := ⟨some d, .slice t x (some y) none none, ty, pos, aft, none⟩) (v := .slice (if c = m then a else a.map (·.add m)) (n - m) (c - m)) rfl ?_ (h _ (k.put _ hd))
  unfold YH at ht
  split at ht
  · rename_i e he
    cases hie : P.info? e with
    | none => simp [hie] at ht
    | some inf =>
      simp only [hie, Option.map_some, Option.some.injEq] at ht
      simp only [execOp, k.eval hx, Option.map_some, Option.map_none, k.eval hy]
      simp [Instr.sliceAt, Instr.slice, run_underlying he, Instr.sliceBounds, Instr.sliceBound, asIntOf, sizeOf, typeInfo, hie, hm, ht]
  · cases ht
theorem wl_slice3 {x y z : Operand} {t : TypeId} {a : Option Addr} {n c m : Nat} {kk kz : IntKind} (hx : ev L x = some (.slice a n c)) (hy : ev L y = some (.int kk (m : Int))) (hz : ev L z = some (.int kz (m : Int))) (ht : YH P t = some 1) (hd : Nat.blt d N = true) (hm : m ≤ c)
    (h : WL rest P ops Q N ((d, .slice a m m) :: L) w) : WL (⟨some d, .slice t x none (some y) (some z), ty, pos, aft, none⟩ :: rest) P ops Q N L w := by
  intro b k
  refine YS (o := ⟨some d, .slice t x none (some y) (some z), ty, pos, aft, none⟩) (v := .slice a m m) rfl ?_ (h _ (k.put _ hd))
  unfold YH at ht
  split at ht
  · rename_i e he
    cases hie : P.info? e with
    | none => simp [hie] at ht
    | some inf =>
      simp only [execOp, k.eval hx, Option.map_some, Option.map_none, k.eval hy, k.eval hz]
      cases a <;> simp [Instr.sliceAt, Instr.slice, run_underlying he, Instr.sliceBounds, Instr.sliceBound, asIntOf, sizeOf, typeInfo, hie, hm, Addr.add]
  · cases ht
end
end Go.Proofs.YtgjplodgdgaakaaGreatDoor

/- The package's reader at the seat: the plain values. -/
namespace Go.Proofs.YtgjplodgdgaakaaGreatDoor.Rdk
open Go Go.RowKit

def tbl : Tbl := ⟨[(126, 0, 0), (126, 1, 1)], [24]⟩
theorem tbl_ok : tbl.ok Tryz.prog = true := by kernel_rfl
theorem ws {ops : Array Oper} {Q : Exit → Act → World → Prop} {N : Nat} {rest : List Oper} {L : Sl} {w : World} {d : Nat} {ty : TypeId} {pos : String} {aft : Array Edge} {o : Op} {v : Value}
    (hs : Yl9 tbl L o = some v) (hd : Nat.blt d N = true) (h : WL rest Tryz.prog ops Q N ((d, v) :: L) w) : WL (⟨some d, o, ty, pos, aft, none⟩ :: rest) Tryz.prog ops Q N L w := wl_step tbl tbl_ok hs hd h
theorem to_bytes : XR Tryz.prog 24 = true := by kernel_rfl
theorem to_bool : XR Tryz.prog 4 = true := by kernel_rfl
theorem to_u8 : XR Tryz.prog 5 = true := by kernel_rfl
theorem es_bytes : YH Tryz.prog 24 = some 1 := by kernel_rfl

theorem fail_out {X : Prop} {p : Rp} {v : Value} {st : Option (List UInt8)} {s : List UInt8} {w w1 w2 : World} {rb sb lo : Nat} {e : TypeId} (hsh : shDs [D.lit v] = shR p) (h1 : v.cells = #[v]) (ho : v.oneCell' = true) (hst : (st = none ∧ X) ∨ st = some s) (hp : rdP p s = none)
    (g1 : w.grownBy w1 (some rb)) (g2 : w1.grownBy w2 (some rb)) (hb : Box w2 rb [.slice none 0 0, .bool true] e) :
    ∃ v' nd st', Ending.returned v = .returned v' ∧ Chg (· = rb) w w2 ∧ Rdr w2 rb sb st' ∧ YX (Dk sb lo w2) w2 nd v'.cells.toList ∧ (v'.cells.toList.all fun v => v.oneCell') = true ∧ ((shR p).length = 1 → v'.cells = #[v']) ∧ Yd9 p st nd st' := by
  refine ⟨v, [.lit v], none, rfl, (Chg.grown g1).trans (Chg.grown g2), ⟨e, hb⟩, ?_, by rw [h1]; simp [ho], fun _ => h1, hsh, fun d hd => by simp at hd; subst hd; rfl, ?_⟩
  · rw [h1]; exact Ve [v]
  · rcases hst with ⟨rfl, _⟩ | rfl
    · rfl
    · simp only [hp]
theorem ok_out {p : Rp} {v : Value} {s s' : List UInt8} {w w1 : World} {rb sb lo : Nat} {e : TypeId} {sv : Value} (hsh : shDs [D.lit v] = shR p) (h1 : v.cells = #[v]) (ho : v.oneCell' = true) (hp : rdP p s = some ([.lit v], s'))
    (g1 : w.grownBy w1 (some rb)) (hb : Box w1 rb [sv, .bool false] e) (hv : Jy w sb sv s') (hl : s'.length ≤ srcLim) (hne : rb ≠ sb) :
    ∃ v' nd st', Ending.returned v = .returned v' ∧ Chg (· = rb) w w1 ∧ Rdr w1 rb sb st' ∧ YX (Dk sb lo w1) w1 nd v'.cells.toList ∧ (v'.cells.toList.all fun v => v.oneCell') = true ∧ ((shR p).length = 1 → v'.cells = #[v']) ∧ Yd9 p (some s) nd st' := by
  refine ⟨v, [.lit v], some s', rfl, Chg.grown g1, (hv.chg (Chg.grown g1) (fun e => hne e.symm)).rdr hb hl, ?_, by rw [h1]; simp [ho], fun _ => h1, hsh, fun d hd => by simp at hd; subst hd; rfl, ?_⟩
  · rw [h1]; exact Ve [v]
  · simp only [hp, and_self]
end Go.Proofs.YtgjplodgdgaakaaGreatDoor.Rdk

/- Numbers out of octets, the highest first: encoding/binary's functions (text printed by tools/be.py). -/
namespace Go.Proofs.YtgjplodgdgaakaaGreatDoor.Rdk
open Go Go.RowKit

section
variable {P : Program} {a : Act} {w : World} {N : Nat} {L : Sl} {d : Option Tmp} {ty : TypeId} {pos : String} {aft : Array Edge} {g : Option (Nat × Bool)}
theorem UD (k' : IntKind) {x : Operand} {s t : TypeId} {kk : IntKind} {n r : Int} (k : Kn N a L) (hx : ev L x = some (.int kk n)) (hs : VI P s kk = true) (ht : VI P t k' = true) (hr : k'.wrap n = r) :
    (execOp a.eval ⟨d, .convert s t x, ty, pos, aft, g⟩).run P w = .ok (.value (.int k' r)) w := by
  have hs' := UT hs
  have ht' := UT ht
  simp [execOp, k.eval hx, convert, run_underlying hs', run_underlying ht', Conv.intToInt, hr]
theorem rn_shl {x : Operand} {t u : TypeId} {kk yk : IntKind} {m s r : Int} (k : Kn N a L) (hx : ev L x = some (.int kk m)) (h0 : 0 ≤ s) (h1 : s ≤ kk.bits) (hr : kk.wrap (m * 2 ^ s.toNat) = r) :
    (execOp a.eval ⟨d, .binOp .shl t x (.const (.int yk s)) u, ty, pos, aft, g⟩).run P w = .ok (.value (.int kk r)) w := by
  simp only [execOp, k.eval hx, XJ]
  simp [eqGuard, binOp, shift_shl kk yk m s h0 h1, hr]
theorem rn_or {x y : Operand} {t u : TypeId} {kk : IntKind} {m n r : Int} (k : Kn N a L) (hx : ev L x = some (.int kk m)) (hy : ev L y = some (.int kk n)) (hr : bits .or kk m n = r) :
    (execOp a.eval ⟨d, .binOp .or t x y u, ty, pos, aft, g⟩).run P w = .ok (.value (.int kk r)) w := by
  simp only [execOp, k.eval hx, k.eval hy]
  simp [eqGuard, binOp, intBits_or, hr]
end
theorem or_add (k : IntKind) (j : Nat) (hj : j ≤ k.bits) (hk : ∀ n : Int, 0 ≤ n → n < 2 ^ j → k.wrap n = n) (a x s : Nat) (ha : a < 2 ^ s) (ha2 : a < 2 ^ j) (hx : x * 2 ^ s < 2 ^ j) : bits .or k (a : Int) ((x * 2 ^ s : Nat) : Int) = ((a + x * 2 ^ s : Nat) : Int) := by
  rw [(bits_nat k j hj hk a (x * 2 ^ s) ha2 hx).2, Nat.mul_comm x (2 ^ s), Nat.or_comm, ← Nat.two_pow_add_eq_or_of_lt ha, Nat.add_comm]

theorem be16 (w : World) (sb : Nat) (a : Option Addr) (c : Nat) (s : List UInt8) (hsv : Jy w sb (.slice a s.length c) s) (h : 2 ≤ s.length) : Calls Tryz.prog 154 #[.agg #[], .slice a s.length c] w fun e w' => e = .returned (.int .u16 (Ye0 (s.take 2))) ∧ Chg (fun _ => False) w w' := by
  obtain ⟨b0, b1, r, rfl⟩ : ∃ b0 b1 r, s = b0 :: b1 :: r := by
    obtain ⟨b0, s, rfl⟩ : ∃ x y, s = x :: y := by cases s with | nil => simp at h | cons x y => exact ⟨x, y, rfl⟩
    obtain ⟨b1, s, rfl⟩ : ∃ x y, s = x :: y := by cases s with | nil => simp at h | cons x y => exact ⟨x, y, rfl⟩
    exact ⟨b0, b1, s, rfl⟩
  obtain ⟨o, rfl, hc0⟩ := hsv.cell (i := 0) (by simp)
  have hc1 : w.cell? ⟨sb, o + 1 * 1, none⟩ = some (.int .u8 b1.toNat) := by obtain ⟨o', e, hc⟩ := hsv.cell (i := 1) (by simp); cases e; exact hc
  simp only [List.getElem_cons_zero] at hc0
  have l0 := b0.toNat_lt
  have l1 := b1.toNat_lt
  have eu : Ye0 ((b0 :: b1 :: r).take 2) = b1.toNat + b0.toNat * 2 ^ 8 := by
    simp only [List.take_succ_cons, List.take_zero, Ye0, List.foldl_cons, List.foldl_nil]; omega
  rw [eu]
  generalize hx0 : b0.toNat = x0 at *
  generalize hx1 : b1.toNat = x1 at *
  have hlen : 2 ≤ (b0 :: b1 :: r).length := h
  generalize hn : (b0 :: b1 :: r).length = m at *
  refine enter Tryz.func154 rfl Tryz.ntmps154 rfl ?_
  refine Yk (Yd (wl_box rfl rfl (YB rfl rfl (Ym (Yj ?_)))))
  have hal : Chg (fun _ => False) w (w.alloc (.cells (Value.agg #[]).cells 193)) := Uf w _ _
  have cell : ∀ (i : Nat) (v : Value), w.cell? ⟨sb, o + i * 1, none⟩ = some v → (w.alloc (.cells (Value.agg #[]).cells 193)).cell? ⟨sb, o + i * 1, none⟩ = some v := by
    intro i v hv
    have : sb < w.heap.size := by
      simp only [World.cell?] at hv
      cases hx : w.heap[sb]? with
      | none => rw [hx] at hv; simp at hv
      | some _ => exact (Array.getElem?_eq_some_iff.1 hx).1
    simp only [World.cell?] at hv ⊢
    rw [hal.block sb this id]; exact hv
  replace hc0 := cell 0 _ hc0
  replace hc1 := cell 1 _ hc1
  clear cell
  generalize w.alloc (.cells (Value.agg #[]).cells 193) = w1 at *
  refine Yk (Yd (Xy rfl rfl (YD (i := 1) rfl rfl es_bytes rfl (by omega) (Xs rfl to_u8 rfl hc1 (Ym (Yj ?_))))))
  refine Yk (wc_sub (L' := [(1, .slice (some ⟨sb, o, none⟩) m c)]) ⟨rfl, trivial⟩ (XY [(0, .slice (some ⟨sb, o, none⟩) m c), (1, .pointer (some ⟨sb, o + 1 * 1, none⟩)), (2, .int .u8 (x1 : Nat)), (3, .int .u16 (x1 : Nat)), (4, .slice (some ⟨sb, o, none⟩) m c), (5, .pointer (some ⟨sb, o + 0 * 1, none⟩)), (6, .int .u8 (x0 : Nat)), (7, .int .u16 (x0 : Nat)), (8, .int .u16 ((x0 * 2 ^ 8 : Nat) : Int)), (9, .int .u16 ((x1 + x0 * 2 ^ 8 : Nat) : Int)), (10, .int .u16 ((x1 + x0 * 2 ^ 8 : Nat) : Int))] [] (fun _ w' => Chg (fun _ => False) w w' ∧ w'.cell? ⟨sb, o + 0 * 1, none⟩ = some (.int .u8 (x0 : Nat)) ∧ w'.cell? ⟨sb, o + 1 * 1, none⟩ = some (.int .u8 (x1 : Nat)))
    mixed rfl rfl rfl rfl rfl (by show ([0,1,2,3,4,5,6,7,8,9,10] : List Nat).Nodup; decide) rfl rfl (by decide) rfl rfl rfl rfl ⟨hal.trans (VL w1 _), hc0, hc1⟩ ?_ trivial ?_))
  · intro p hp vals w' hC a k
    simp only [List.mem_cons, List.not_mem_nil, or_false] at hp
    rcases hp with rfl | rfl | rfl | rfl | rfl | rfl | rfl | rfl | rfl | rfl | rfl
    · exact gv rfl rfl (YA k rfl)
    · exact gv rfl rfl (Xm k rfl rfl es_bytes (by omega))
    · exact gv rfl rfl (Xe k rfl to_u8 hC.2.2)
    · exact gv rfl rfl (UD .u16 k rfl (by kernel_rfl) (by kernel_rfl) (by rw [IntKind.wrap_u16]; omega))
    · exact gv rfl rfl (YA k rfl)
    · exact gv rfl rfl (Xm k rfl rfl es_bytes (by omega))
    · exact gv rfl rfl (Xe k rfl to_u8 hC.2.1)
    · exact gv rfl rfl (UD .u16 k rfl (by kernel_rfl) (by kernel_rfl) (by rw [IntKind.wrap_u16]; omega))
    · exact gv rfl rfl (rn_shl k rfl (by decide) (by decide) (by rw [IntKind.wrap_u16]; simp; omega))
    · exact gv rfl rfl (rn_or k rfl rfl (or_add .u16 16 (by decide) (fun n h0 h1 => by rw [IntKind.wrap_u16]; omega) _ _ _ (by omega) (by omega) (by omega)))
    · exact gv rfl rfl (Yi3 k rfl)
  · rintro vals w' hvl ⟨hw', _⟩
    exact Yj (Yn (Yt rfl rfl ⟨rfl, hw'⟩))
theorem be32 (w : World) (sb : Nat) (a : Option Addr) (c : Nat) (s : List UInt8) (hsv : Jy w sb (.slice a s.length c) s) (h : 4 ≤ s.length) : Calls Tryz.prog 152 #[.agg #[], .slice a s.length c] w fun e w' => e = .returned (.int .u32 (Ye0 (s.take 4))) ∧ Chg (fun _ => False) w w' := by
  obtain ⟨b0, b1, b2, b3, r, rfl⟩ : ∃ b0 b1 b2 b3 r, s = b0 :: b1 :: b2 :: b3 :: r := by
    obtain ⟨b0, s, rfl⟩ : ∃ x y, s = x :: y := by cases s with | nil => simp at h | cons x y => exact ⟨x, y, rfl⟩
    obtain ⟨b1, s, rfl⟩ : ∃ x y, s = x :: y := by cases s with | nil => simp at h | cons x y => exact ⟨x, y, rfl⟩
    obtain ⟨b2, s, rfl⟩ : ∃ x y, s = x :: y := by cases s with | nil => simp at h | cons x y => exact ⟨x, y, rfl⟩
    obtain ⟨b3, s, rfl⟩ : ∃ x y, s = x :: y := by cases s with | nil => simp at h | cons x y => exact ⟨x, y, rfl⟩
    exact ⟨b0, b1, b2, b3, s, rfl⟩
  obtain ⟨o, rfl, hc0⟩ := hsv.cell (i := 0) (by simp)
  have hc1 : w.cell? ⟨sb, o + 1 * 1, none⟩ = some (.int .u8 b1.toNat) := by obtain ⟨o', e, hc⟩ := hsv.cell (i := 1) (by simp); cases e; exact hc
  have hc2 : w.cell? ⟨sb, o + 2 * 1, none⟩ = some (.int .u8 b2.toNat) := by obtain ⟨o', e, hc⟩ := hsv.cell (i := 2) (by simp); cases e; exact hc
  have hc3 : w.cell? ⟨sb, o + 3 * 1, none⟩ = some (.int .u8 b3.toNat) := by obtain ⟨o', e, hc⟩ := hsv.cell (i := 3) (by simp); cases e; exact hc
  simp only [List.getElem_cons_zero] at hc0
  have l0 := b0.toNat_lt
  have l1 := b1.toNat_lt
  have l2 := b2.toNat_lt
  have l3 := b3.toNat_lt
  have eu : Ye0 ((b0 :: b1 :: b2 :: b3 :: r).take 4) = b3.toNat + b2.toNat * 2 ^ 8 + b1.toNat * 2 ^ 16 + b0.toNat * 2 ^ 24 := by
    simp only [List.take_succ_cons, List.take_zero, Ye0, List.foldl_cons, List.foldl_nil]; omega
  rw [eu]
  generalize hx0 : b0.toNat = x0 at *
  generalize hx1 : b1.toNat = x1 at *
  generalize hx2 : b2.toNat = x2 at *
  generalize hx3 : b3.toNat = x3 at *
  have hlen : 4 ≤ (b0 :: b1 :: b2 :: b3 :: r).length := h
  generalize hn : (b0 :: b1 :: b2 :: b3 :: r).length = m at *
  refine enter Tryz.func152 rfl Tryz.ntmps152 rfl ?_
  refine Yk (Yd (wl_box rfl rfl (YB rfl rfl (Ym (Yj ?_)))))
  have hal : Chg (fun _ => False) w (w.alloc (.cells (Value.agg #[]).cells 193)) := Uf w _ _
  have cell : ∀ (i : Nat) (v : Value), w.cell? ⟨sb, o + i * 1, none⟩ = some v → (w.alloc (.cells (Value.agg #[]).cells 193)).cell? ⟨sb, o + i * 1, none⟩ = some v := by
    intro i v hv
    have : sb < w.heap.size := by
      simp only [World.cell?] at hv
      cases hx : w.heap[sb]? with
      | none => rw [hx] at hv; simp at hv
      | some _ => exact (Array.getElem?_eq_some_iff.1 hx).1
    simp only [World.cell?] at hv ⊢
    rw [hal.block sb this id]; exact hv
  replace hc0 := cell 0 _ hc0
  replace hc1 := cell 1 _ hc1
  replace hc2 := cell 2 _ hc2
  replace hc3 := cell 3 _ hc3
  clear cell
  generalize w.alloc (.cells (Value.agg #[]).cells 193) = w1 at *
  refine Yk (Yd (Xy rfl rfl (YD (i := 3) rfl rfl es_bytes rfl (by omega) (Xs rfl to_u8 rfl hc3 (Ym (Yj ?_))))))
  refine Yk (wc_sub (L' := [(1, .slice (some ⟨sb, o, none⟩) m c)]) ⟨rfl, trivial⟩ (XY [(0, .slice (some ⟨sb, o, none⟩) m c), (1, .pointer (some ⟨sb, o + 3 * 1, none⟩)), (2, .int .u8 (x3 : Nat)), (3, .int .u32 (x3 : Nat)), (4, .slice (some ⟨sb, o, none⟩) m c), (5, .pointer (some ⟨sb, o + 2 * 1, none⟩)), (6, .int .u8 (x2 : Nat)), (7, .int .u32 (x2 : Nat)), (8, .int .u32 ((x2 * 2 ^ 8 : Nat) : Int)), (9, .int .u32 ((x3 + x2 * 2 ^ 8 : Nat) : Int)), (10, .slice (some ⟨sb, o, none⟩) m c), (11, .pointer (some ⟨sb, o + 1 * 1, none⟩)), (12, .int .u8 (x1 : Nat)), (13, .int .u32 (x1 : Nat)), (14, .int .u32 ((x1 * 2 ^ 16 : Nat) : Int)), (15, .int .u32 ((x3 + x2 * 2 ^ 8 + x1 * 2 ^ 16 : Nat) : Int)), (16, .slice (some ⟨sb, o, none⟩) m c), (17, .pointer (some ⟨sb, o + 0 * 1, none⟩)), (18, .int .u8 (x0 : Nat)), (19, .int .u32 (x0 : Nat)), (20, .int .u32 ((x0 * 2 ^ 24 : Nat) : Int)), (21, .int .u32 ((x3 + x2 * 2 ^ 8 + x1 * 2 ^ 16 + x0 * 2 ^ 24 : Nat) : Int)), (22, .int .u32 ((x3 + x2 * 2 ^ 8 + x1 * 2 ^ 16 + x0 * 2 ^ 24 : Nat) : Int))] [] (fun _ w' => Chg (fun _ => False) w w' ∧ w'.cell? ⟨sb, o + 0 * 1, none⟩ = some (.int .u8 (x0 : Nat)) ∧ w'.cell? ⟨sb, o + 1 * 1, none⟩ = some (.int .u8 (x1 : Nat)) ∧ w'.cell? ⟨sb, o + 2 * 1, none⟩ = some (.int .u8 (x2 : Nat)) ∧ w'.cell? ⟨sb, o + 3 * 1, none⟩ = some (.int .u8 (x3 : Nat)))
    mixed rfl rfl rfl rfl rfl (by show ([0,1,2,3,4,5,6,7,8,9,10,11,12,13,14,15,16,17,18,19,20,21,22] : List Nat).Nodup; decide) rfl rfl (by decide) rfl rfl rfl rfl ⟨hal.trans (VL w1 _), hc0, hc1, hc2, hc3⟩ ?_ trivial ?_))
  · intro p hp vals w' hC a k
    simp only [List.mem_cons, List.not_mem_nil, or_false] at hp
    rcases hp with rfl | rfl | rfl | rfl | rfl | rfl | rfl | rfl | rfl | rfl | rfl | rfl | rfl | rfl | rfl | rfl | rfl | rfl | rfl | rfl | rfl | rfl | rfl
    · exact gv rfl rfl (YA k rfl)
    · exact gv rfl rfl (Xm k rfl rfl es_bytes (by omega))
    · exact gv rfl rfl (Xe k rfl to_u8 hC.2.2.2.2)
    · exact gv rfl rfl (UD .u32 k rfl (by kernel_rfl) (by kernel_rfl) (by rw [IntKind.wrap_u32]; omega))
    · exact gv rfl rfl (YA k rfl)
    · exact gv rfl rfl (Xm k rfl rfl es_bytes (by omega))
    · exact gv rfl rfl (Xe k rfl to_u8 hC.2.2.2.1)
    · exact gv rfl rfl (UD .u32 k rfl (by kernel_rfl) (by kernel_rfl) (by rw [IntKind.wrap_u32]; omega))
    · exact gv rfl rfl (rn_shl k rfl (by decide) (by decide) (by rw [IntKind.wrap_u32]; simp; omega))
    · exact gv rfl rfl (rn_or k rfl rfl (or_add .u32 32 (by decide) (fun n h0 h1 => by rw [IntKind.wrap_u32]; omega) _ _ _ (by omega) (by omega) (by omega)))
    · exact gv rfl rfl (YA k rfl)
    · exact gv rfl rfl (Xm k rfl rfl es_bytes (by omega))
    · exact gv rfl rfl (Xe k rfl to_u8 hC.2.2.1)
    · exact gv rfl rfl (UD .u32 k rfl (by kernel_rfl) (by kernel_rfl) (by rw [IntKind.wrap_u32]; omega))
    · exact gv rfl rfl (rn_shl k rfl (by decide) (by decide) (by rw [IntKind.wrap_u32]; simp; omega))
    · exact gv rfl rfl (rn_or k rfl rfl (or_add .u32 32 (by decide) (fun n h0 h1 => by rw [IntKind.wrap_u32]; omega) _ _ _ (by omega) (by omega) (by omega)))
    · exact gv rfl rfl (YA k rfl)
    · exact gv rfl rfl (Xm k rfl rfl es_bytes (by omega))
    · exact gv rfl rfl (Xe k rfl to_u8 hC.2.1)
    · exact gv rfl rfl (UD .u32 k rfl (by kernel_rfl) (by kernel_rfl) (by rw [IntKind.wrap_u32]; omega))
    · exact gv rfl rfl (rn_shl k rfl (by decide) (by decide) (by rw [IntKind.wrap_u32]; simp; omega))
    · exact gv rfl rfl (rn_or k rfl rfl (or_add .u32 32 (by decide) (fun n h0 h1 => by rw [IntKind.wrap_u32]; omega) _ _ _ (by omega) (by omega) (by omega)))
    · exact gv rfl rfl (Yi3 k rfl)
  · rintro vals w' hvl ⟨hw', _⟩
    exact Yj (Yn (Yt rfl rfl ⟨rfl, hw'⟩))
end Go.Proofs.YtgjplodgdgaakaaGreatDoor.Rdk

/- The package's reader at the seat: numbers (text printed by tools/rdk.py). -/
namespace Go.Proofs.YtgjplodgdgaakaaGreatDoor.Rdk
open Go Go.RowKit

set_option maxRecDepth 100000
theorem does_conv {P : Program} {N : Nat} {L : Sl} {a : Act} {w : World} {d : Option Nat} {ty : TypeId} {pos : String} {aft : Array Edge} {g : Option (Nat × Bool)} (k' : IntKind) {x : Operand} {s t : TypeId} {kk : IntKind} {n : Int} {R : Value → World → Prop} (k : Kn N a L) (hx : ev L x = some (.int kk n)) (hs : VI P s kk = true) (ht : VI P t k' = true) (h : R (.int k' (k'.wrap n)) w) : Does P ⟨d, .convert s t x, ty, pos, aft, g⟩ a w R :=
  UP (UD k' k hx hs ht rfl) h
theorem Yg2 {k : IntKind} {n : Nat} {s : List UInt8} (h : s.length < n) : Ye1 k n s = none := by simp only [Ye1, Yd8]; rw [if_neg (by omega)]; rfl
theorem Yf7 {k : IntKind} {n : Nat} {s : List UInt8} (h : n ≤ s.length) : Ye1 k n s = some (k.wrap (Ye0 (s.take n)), s.drop n) := by simp only [Ye1, Yd8]; rw [if_pos h]; rfl
theorem ta_be : Us Tryz.prog 193 = some 0 := by kernel_rfl
theorem fo_rd0 : YY Tryz.prog 126 0 = some 0 := by kernel_rfl
theorem unbe2_wrap {s : List UInt8} (h : 2 ≤ s.length) : IntKind.u16.wrap (Ye0 (s.take 2)) = Ye0 (s.take 2) := by
  match s, h with
  | x :: y :: r, _ =>
    have := x.toNat_lt
    have := y.toNat_lt
    simp only [List.take_succ_cons, List.take_zero, Ye0, List.foldl_cons, List.foldl_nil]
    rw [IntKind.wrap_u16]; omega
theorem ok_outC {p : Rp} {v : Value} {s s' : List UInt8} {w0 w w1 : World} {rb sb lo : Nat} {e : TypeId} {sv : Value} (h0 : Chg (fun _ => False) w0 w) (hsh : shDs [D.lit v] = shR p) (h1 : v.cells = #[v]) (ho : v.oneCell' = true) (hp : rdP p s = some ([.lit v], s'))
    (g1 : w.grownBy w1 (some rb)) (hb : Box w1 rb [sv, .bool false] e) (hv : Jy w0 sb sv s') (hl : s'.length ≤ srcLim) (hne : rb ≠ sb) :
    ∃ v' nd st', Ending.returned v = .returned v' ∧ Chg (· = rb) w0 w1 ∧ Rdr w1 rb sb st' ∧ YX (Dk sb lo w1) w1 nd v'.cells.toList ∧ (v'.cells.toList.all fun v => v.oneCell') = true ∧ ((shR p).length = 1 → v'.cells = #[v']) ∧ Yd9 p (some s) nd st' := by
  obtain ⟨v', nd, st', a1, a2, a3⟩ := ok_out (lo := lo) hsh h1 ho hp g1 hb (hv.chg h0 id) hl hne
  exact ⟨v', nd, st', a1, (h0.wide (fun _ h => h.elim)).trans a2, a3⟩

theorem rd_Int16 : RdC Tryz.prog 148 .i16 := by
  intro w rb sb lo st hr h1 h2 h3 h4
  obtain ⟨a, c, s, e, hb, hle, hlim, hsv, hst⟩ := hr.view
  refine enter Tryz.func148 rfl Tryz.ntmps148 rfl ?_
  refine Yk (Yd (YB rfl rfl (Ym (Yj ?_))))
  refine Yk (Yk (Yd ?_))
  refine ws rfl rfl ?_
  refine ws rfl rfl ?_
  refine ws rfl rfl ?_
  refine Yv rfl to_bytes rfl hb rfl ?_
  refine ws rfl rfl ?_
  refine ws rfl rfl ?_
  refine Ym (Yj ?_)
  refine VG rfl (fun hc => ?_) (fun hc => ?_)
  · refine Yk (Yd ?_)
    refine ws rfl rfl ?_
    refine ws rfl rfl ?_
    refine ws rfl rfl ?_
    refine YJ rfl rfl to_bool rfl hb rfl (fun w1 hb1 g1 _ => ?_)
    refine Ym (Yj ?_)
    refine Yk (Yd ?_)
    refine ws rfl rfl ?_
    refine ws rfl rfl ?_
    refine ws rfl rfl ?_
    refine YJ rfl rfl to_bytes rfl hb1 rfl (fun w2 hb2 g2 _ => ?_)
    refine Ym (Yj ?_)
    refine Yk (Yd ?_)
    refine ws rfl rfl ?_
    refine Ym (Yj (Yn (Ye (Yt rfl rfl ?_))))
    have hs : s.length < 2 := by simp at hc; omega
    exact fail_out rfl rfl rfl hst (by simp only [rdP, Yg2 hs, Option.map_none]) g1 g2 hb2
  · have hs : 2 ≤ s.length := by simp at hc; omega
    obtain rfl : st = some s := by
      rcases hst with ⟨_, h, _⟩ | h
      · rw [h] at hs; simp at hs
      · exact h
    refine Yi (Yj (Yk ?_))
    refine XY [(0, .agg (([] : List Value).toArray)), (1, .pointer (some ⟨rb, 0, none⟩)), (2, .pointer (some ⟨rb, 0, none⟩)), (3, .pointer (some ⟨rb, 0 + 0, none⟩)), (4, .slice a s.length c)] [7, 6, 5] (fun vals w' => Chg (fun _ => False) w w' ∧ match vals with | [] => True | [v] => v = .int .u16 (Ye0 (s.take 2)) | v :: _ => v = .int .i16 (IntKind.i16.wrap (Ye0 (s.take 2)))) mixed rfl rfl rfl rfl rfl (by show ([0,1,2,3,4] : List Nat).Nodup; decide) rfl rfl (by decide) rfl rfl rfl rfl ⟨VL w _, trivial⟩ ?_ ⟨?_, ?_, ?_, trivial⟩ ?_
    · intro p hp vals w' hC a' k
      simp only [List.mem_cons, List.not_mem_nil, or_false] at hp
      rcases hp with rfl | rfl | rfl | rfl | rfl
      · exact gv rfl rfl (Uv (cs := []) k rfl ta_be (fun j v h => by simp at h))
      · exact gv rfl rfl (YA k rfl)
      · exact gv rfl rfl (Jx k rfl)
      · exact gv rfl rfl (YG k rfl fo_rd0)
      · exact gv rfl rfl (Xe k rfl to_bytes ((hb.chg hC.1 id).cell rfl))
    · rintro vals w' hvl ⟨hw', hC⟩ a' k
      match vals, hvl with
      | [v6, v5], _ => exact ⟨_, rfl, XF k rfl ⟨hw', hC⟩⟩
    · rintro vals w' hvl ⟨hw', hC⟩ a' k
      match vals, hvl with
      | [v5], _ =>
        simp only [] at hC
        subst hC
        exact ⟨_, rfl, does_conv .i16 k rfl (by kernel_rfl) (by kernel_rfl) ⟨hw', rfl⟩⟩
    · rintro vals w' hvl hC a' k
      match vals, hvl with
      | [], _ =>
        refine ⟨_, rfl, YQ k rfl (by kernel_rfl) ((be16 w' sb a c s (hsv.chg hC.1 id) hs).mono ?_)⟩
        rintro e w'' ⟨rfl, hc''⟩
        exact ⟨_, rfl, hC.1.trans hc'', rfl⟩
    · rintro vals w' hvl ⟨hw', hC⟩
      match vals, hvl with
      | [v7, v6, v5], _ =>
        simp only [] at hC
        subst hC
        have hb' := hb.chg hw' id
        refine Yj (Yk (Yd ?_))
        refine ws rfl rfl ?_
        refine ws rfl rfl ?_
        refine ws rfl rfl ?_
        refine ws rfl rfl ?_
        refine Yv rfl to_bytes rfl hb' rfl ?_
        refine UA (m := 2) rfl rfl es_bytes rfl hs ?_
        refine ws rfl rfl ?_
        refine ws rfl rfl ?_
        refine YJ rfl rfl to_bytes rfl hb' rfl (fun w1 hb1 g1 _ => ?_)
        refine Ym (Yj (Yk (Yd ?_)))
        refine ws rfl rfl ?_
        refine ws rfl rfl ?_
        refine Ym (Yj (Yn (Yt rfl rfl ?_)))
        exact ok_outC (v := .int .i16 (IntKind.i16.wrap (Ye0 (s.take 2)))) hw' (by simp [shDs, shD, shR, Ue]) rfl rfl (by rw [rdP, Yf7 hs]; rfl) g1 hb1 (hsv.drop hs) (by simp; omega) h4
theorem rd_Int32 : RdC Tryz.prog 114 .i32 := by
  intro w rb sb lo st hr h1 h2 h3 h4
  obtain ⟨a, c, s, e, hb, hle, hlim, hsv, hst⟩ := hr.view
  refine enter Tryz.func114 rfl Tryz.ntmps114 rfl ?_
  refine Yk (Yd (YB rfl rfl (Ym (Yj ?_))))
  refine Yk (Yk (Yd ?_))
  refine ws rfl rfl ?_
  refine ws rfl rfl ?_
  refine ws rfl rfl ?_
  refine Yv rfl to_bytes rfl hb rfl ?_
  refine ws rfl rfl ?_
  refine ws rfl rfl ?_
  refine Ym (Yj ?_)
  refine VG rfl (fun hc => ?_) (fun hc => ?_)
  · refine Yk (Yd ?_)
    refine ws rfl rfl ?_
    refine ws rfl rfl ?_
    refine ws rfl rfl ?_
    refine YJ rfl rfl to_bool rfl hb rfl (fun w1 hb1 g1 _ => ?_)
    refine Ym (Yj ?_)
    refine Yk (Yd ?_)
    refine ws rfl rfl ?_
    refine ws rfl rfl ?_
    refine ws rfl rfl ?_
    refine YJ rfl rfl to_bytes rfl hb1 rfl (fun w2 hb2 g2 _ => ?_)
    refine Ym (Yj ?_)
    refine Yk (Yd ?_)
    refine ws rfl rfl ?_
    refine Ym (Yj (Yn (Ye (Yt rfl rfl ?_))))
    have hs : s.length < 4 := by simp at hc; omega
    exact fail_out rfl rfl rfl hst (by simp only [rdP, Yg2 hs, Option.map_none]) g1 g2 hb2
  · have hs : 4 ≤ s.length := by simp at hc; omega
    obtain rfl : st = some s := by
      rcases hst with ⟨_, h, _⟩ | h
      · rw [h] at hs; simp at hs
      · exact h
    refine Yi (Yj (Yk ?_))
    refine XY [(0, .agg (([] : List Value).toArray)), (1, .pointer (some ⟨rb, 0, none⟩)), (2, .pointer (some ⟨rb, 0, none⟩)), (3, .pointer (some ⟨rb, 0 + 0, none⟩)), (4, .slice a s.length c)] [7, 6, 5] (fun vals w' => Chg (fun _ => False) w w' ∧ match vals with | [] => True | [v] => v = .int .u32 (Ye0 (s.take 4)) | v :: _ => v = .int .i32 (IntKind.i32.wrap (Ye0 (s.take 4)))) mixed rfl rfl rfl rfl rfl (by show ([0,1,2,3,4] : List Nat).Nodup; decide) rfl rfl (by decide) rfl rfl rfl rfl ⟨VL w _, trivial⟩ ?_ ⟨?_, ?_, ?_, trivial⟩ ?_
    · intro p hp vals w' hC a' k
      simp only [List.mem_cons, List.not_mem_nil, or_false] at hp
      rcases hp with rfl | rfl | rfl | rfl | rfl
      · exact gv rfl rfl (Uv (cs := []) k rfl ta_be (fun j v h => by simp at h))
      · exact gv rfl rfl (YA k rfl)
      · exact gv rfl rfl (Jx k rfl)
      · exact gv rfl rfl (YG k rfl fo_rd0)
      · exact gv rfl rfl (Xe k rfl to_bytes ((hb.chg hC.1 id).cell rfl))
    · rintro vals w' hvl ⟨hw', hC⟩ a' k
      match vals, hvl with
      | [v6, v5], _ => exact ⟨_, rfl, XF k rfl ⟨hw', hC⟩⟩
    · rintro vals w' hvl ⟨hw', hC⟩ a' k
      match vals, hvl with
      | [v5], _ =>
        simp only [] at hC
        subst hC
        exact ⟨_, rfl, does_conv .i32 k rfl (by kernel_rfl) (by kernel_rfl) ⟨hw', rfl⟩⟩
    · rintro vals w' hvl hC a' k
      match vals, hvl with
      | [], _ =>
        refine ⟨_, rfl, YQ k rfl (by kernel_rfl) ((be32 w' sb a c s (hsv.chg hC.1 id) hs).mono ?_)⟩
        rintro e w'' ⟨rfl, hc''⟩
        exact ⟨_, rfl, hC.1.trans hc'', rfl⟩
    · rintro vals w' hvl ⟨hw', hC⟩
      match vals, hvl with
      | [v7, v6, v5], _ =>
        simp only [] at hC
        subst hC
        have hb' := hb.chg hw' id
        refine Yj (Yk (Yd ?_))
        refine ws rfl rfl ?_
        refine ws rfl rfl ?_
        refine ws rfl rfl ?_
        refine ws rfl rfl ?_
        refine Yv rfl to_bytes rfl hb' rfl ?_
        refine UA (m := 4) rfl rfl es_bytes rfl hs ?_
        refine ws rfl rfl ?_
        refine ws rfl rfl ?_
        refine YJ rfl rfl to_bytes rfl hb' rfl (fun w1 hb1 g1 _ => ?_)
        refine Ym (Yj (Yk (Yd ?_)))
        refine ws rfl rfl ?_
        refine ws rfl rfl ?_
        refine Ym (Yj (Yn (Yt rfl rfl ?_)))
        exact ok_outC (v := .int .i32 (IntKind.i32.wrap (Ye0 (s.take 4)))) hw' (by simp [shDs, shD, shR, Ue]) rfl rfl (by rw [rdP, Yf7 hs]; rfl) g1 hb1 (hsv.drop hs) (by simp; omega) h4
theorem rd_Uint16 : RdC Tryz.prog 128 .u16 := by
  intro w rb sb lo st hr h1 h2 h3 h4
  obtain ⟨a, c, s, e, hb, hle, hlim, hsv, hst⟩ := hr.view
  refine enter Tryz.func128 rfl Tryz.ntmps128 rfl ?_
  refine Yk (Yd (YB rfl rfl (Ym (Yj ?_))))
  refine Yk (Yk (Yd ?_))
  refine ws rfl rfl ?_
  refine ws rfl rfl ?_
  refine ws rfl rfl ?_
  refine Yv rfl to_bytes rfl hb rfl ?_
  refine ws rfl rfl ?_
  refine ws rfl rfl ?_
  refine Ym (Yj ?_)
  refine VG rfl (fun hc => ?_) (fun hc => ?_)
  · refine Yk (Yd ?_)
    refine ws rfl rfl ?_
    refine ws rfl rfl ?_
    refine ws rfl rfl ?_
    refine YJ rfl rfl to_bool rfl hb rfl (fun w1 hb1 g1 _ => ?_)
    refine Ym (Yj ?_)
    refine Yk (Yd ?_)
    refine ws rfl rfl ?_
    refine ws rfl rfl ?_
    refine ws rfl rfl ?_
    refine YJ rfl rfl to_bytes rfl hb1 rfl (fun w2 hb2 g2 _ => ?_)
    refine Ym (Yj ?_)
    refine Yk (Yd ?_)
    refine ws rfl rfl ?_
    refine Ym (Yj (Yn (Ye (Yt rfl rfl ?_))))
    have hs : s.length < 2 := by simp at hc; omega
    exact fail_out rfl rfl rfl hst (by simp only [rdP, Yg2 hs, Option.map_none]) g1 g2 hb2
  · have hs : 2 ≤ s.length := by simp at hc; omega
    obtain rfl : st = some s := by
      rcases hst with ⟨_, h, _⟩ | h
      · rw [h] at hs; simp at hs
      · exact h
    refine Yi (Yj (Yk ?_))
    refine XY [(0, .agg (([] : List Value).toArray)), (1, .pointer (some ⟨rb, 0, none⟩)), (2, .pointer (some ⟨rb, 0, none⟩)), (3, .pointer (some ⟨rb, 0 + 0, none⟩)), (4, .slice a s.length c)] [6, 5] (fun vals w' => Chg (fun _ => False) w w' ∧ match vals with | [] => True | v :: _ => v = .int .u16 (Ye0 (s.take 2))) mixed rfl rfl rfl rfl rfl (by show ([0,1,2,3,4] : List Nat).Nodup; decide) rfl rfl (by decide) rfl rfl rfl rfl ⟨VL w _, trivial⟩ ?_ ⟨?_, ?_, trivial⟩ ?_
    · intro p hp vals w' hC a' k
      simp only [List.mem_cons, List.not_mem_nil, or_false] at hp
      rcases hp with rfl | rfl | rfl | rfl | rfl
      · exact gv rfl rfl (Uv (cs := []) k rfl ta_be (fun j v h => by simp at h))
      · exact gv rfl rfl (YA k rfl)
      · exact gv rfl rfl (Jx k rfl)
      · exact gv rfl rfl (YG k rfl fo_rd0)
      · exact gv rfl rfl (Xe k rfl to_bytes ((hb.chg hC.1 id).cell rfl))
    · rintro vals w' hvl ⟨hw', hC⟩ a' k
      match vals, hvl with
      | [v5], _ => exact ⟨_, rfl, XF k rfl ⟨hw', hC⟩⟩
    · rintro vals w' hvl hC a' k
      match vals, hvl with
      | [], _ =>
        refine ⟨_, rfl, YQ k rfl (by kernel_rfl) ((be16 w' sb a c s (hsv.chg hC.1 id) hs).mono ?_)⟩
        rintro e w'' ⟨rfl, hc''⟩
        exact ⟨_, rfl, hC.1.trans hc'', rfl⟩
    · rintro vals w' hvl ⟨hw', hC⟩
      match vals, hvl with
      | [v6, v5], _ =>
        simp only [] at hC
        subst hC
        have hb' := hb.chg hw' id
        refine Yj (Yk (Yd ?_))
        refine ws rfl rfl ?_
        refine ws rfl rfl ?_
        refine ws rfl rfl ?_
        refine ws rfl rfl ?_
        refine Yv rfl to_bytes rfl hb' rfl ?_
        refine UA (m := 2) rfl rfl es_bytes rfl hs ?_
        refine ws rfl rfl ?_
        refine ws rfl rfl ?_
        refine YJ rfl rfl to_bytes rfl hb' rfl (fun w1 hb1 g1 _ => ?_)
        refine Ym (Yj (Yk (Yd ?_)))
        refine ws rfl rfl ?_
        refine ws rfl rfl ?_
        refine Ym (Yj (Yn (Yt rfl rfl ?_)))
        have hw16 : IntKind.u16.wrap (Ye0 (s.take 2)) = Ye0 (s.take 2) := unbe2_wrap hs
        exact ok_outC (v := .int .u16 (Ye0 (s.take 2))) hw' (by simp [shDs, shD, shR, hw16]) rfl rfl (by rw [rdP, Yf7 hs, hw16]; rfl) g1 hb1 (hsv.drop hs) (by simp; omega) h4
/-- What is told of eight octets read as a number. -/
def RelU (st : Option (List UInt8)) (n : Nat) (st' : Option (List UInt8)) : Prop := match st with
  | none => st' = none
  | some s => if 8 ≤ s.length then st' = some (s.drop 8) ∧ n = Ye0 (s.take 8) else st' = none
def RdU (P : Program) (f : Nat) : Prop := ∀ (w : World) (rb sb lo : Nat) (st : Option (List UInt8)), Rdr w rb sb st → rb < lo → sb < lo → lo ≤ w.heap.size → rb ≠ sb →
    Calls P f #[.pointer (some ⟨rb, 0, none⟩)] w fun e w' => ∃ (n : Nat) (st' : Option (List UInt8)), e = .returned (.int .u64 (n : Int)) ∧ Chg (· = rb) w w' ∧ Rdr w' rb sb st' ∧ RelU st n st'
end Go.Proofs.YtgjplodgdgaakaaGreatDoor.Rdk

/- The package's reader at the seat: spans, the ends. -/
namespace Go.Proofs.YtgjplodgdgaakaaGreatDoor.Rdk
open Go Go.RowKit

set_option maxRecDepth 100000
def Ua (l : Int) (st : Option (List UInt8)) (s1 : List UInt8) (st' : Option (List UInt8)) : Prop := match st with
  | none => st' = none
  | some s => match Uk l s with
    | some x => st' = some x.2 ∧ s1 = x.1
    | none => st' = none
theorem Yc1 (w : World) (rb sb : Nat) (st : Option (List UInt8)) (l : Int) (hr : Rdr w rb sb st) (hne : rb ≠ sb) :
    Calls Tryz.prog 151 #[.pointer (some ⟨rb, 0, none⟩), .int .i64 l] w fun e w' => ∃ v s1 st', e = .returned v ∧ Chg (· = rb) w w' ∧ Rdr w' rb sb st' ∧ Jy w' sb v s1 ∧ s1.length ≤ srcLim ∧ Ua l st s1 st' := by
  obtain ⟨a, c, s, e, hb, hle, hlim, hsv, hst⟩ := hr.view
  refine enter Tryz.func151 rfl Tryz.ntmps151 rfl ?_
  refine Yk (Yd (YB rfl rfl (Ym (Yj ?_))))
  refine Yk (Yk (Yd ?_))
  refine ws rfl rfl ?_
  refine ws rfl rfl ?_
  refine ws rfl rfl ?_
  refine Yv rfl to_bytes rfl hb rfl ?_
  refine ws rfl rfl ?_
  refine ws rfl rfl ?_
  refine ws rfl rfl ?_
  have fail : ∀ (w2 : World) (g : Chg (· = rb) w w2) (hb2 : Box w2 rb [.slice none 0 0, .bool true] e), Uk l s = none → ∃ v s1 st', Ending.returned (.slice none 0 0) = .returned v ∧ Chg (· = rb) w w2 ∧ Rdr w2 rb sb st' ∧ Jy w2 sb v s1 ∧ s1.length ≤ srcLim ∧ Ua l st s1 st' := by
    intro w2 g hb2 hp
    refine ⟨_, [], none, rfl, g, ⟨e, hb2⟩, .inl ⟨rfl, rfl⟩, Nat.zero_le _, ?_⟩
    rcases hst with ⟨rfl, _⟩ | rfl
    · rfl
    · simp only [Ua, hp]
  by_cases hlt : (s.length : Int) < l
  · rw [show decide ((s.length : Int) < l) = true from decide_eq_true hlt]
    refine ws rfl rfl ?_
    refine Yq rfl rfl rfl rfl ?_
    refine Yq rfl rfl rfl rfl ?_
    refine ws rfl rfl ?_
    refine Ym (Yj ?_)
    refine VG rfl (fun _ => ?_) (fun h => by cases h)
    refine Yk (Yd ?_)
    refine ws rfl rfl ?_
    refine ws rfl rfl ?_
    refine ws rfl rfl ?_
    refine YJ rfl rfl to_bool rfl hb rfl (fun w1 hb1 g1 _ => ?_)
    refine Ym (Yj ?_)
    refine Yk (Yd ?_)
    refine ws rfl rfl ?_
    refine ws rfl rfl ?_
    refine ws rfl rfl ?_
    refine YJ rfl rfl to_bytes rfl hb1 rfl (fun w2 hb2 g2 _ => ?_)
    refine Ym (Yj ?_)
    refine Yk (Yd ?_)
    refine ws rfl rfl ?_
    refine Ym (Yj (Yn (Ye (Yt rfl rfl ?_))))
    refine fail _ ((Chg.grown g1).trans (Chg.grown g2)) hb2 ?_
    simp only [Uk, Yd8]
    split
    · rfl
    · rw [if_neg (by omega)]
  · rw [show decide ((s.length : Int) < l) = false from decide_eq_false hlt]
    refine ws rfl rfl ?_
    refine Yo rfl rfl rfl ?_
    refine ws rfl rfl ?_
    refine Yo rfl rfl rfl ?_
    refine ws rfl rfl ?_
    refine ws rfl rfl ?_
    refine Ym (Yj ?_)
    refine VG rfl (fun hc => ?_) (fun hc => ?_)
    · refine Yk (Yd ?_)
      refine ws rfl rfl ?_
      refine ws rfl rfl ?_
      refine ws rfl rfl ?_
      refine YJ rfl rfl to_bool rfl hb rfl (fun w1 hb1 g1 _ => ?_)
      refine Ym (Yj ?_)
      refine Yk (Yd ?_)
      refine ws rfl rfl ?_
      refine ws rfl rfl ?_
      refine ws rfl rfl ?_
      refine YJ rfl rfl to_bytes rfl hb1 rfl (fun w2 hb2 g2 _ => ?_)
      refine Ym (Yj ?_)
      refine Yk (Yd ?_)
      refine ws rfl rfl ?_
      refine Ym (Yj (Yn (Ye (Yt rfl rfl ?_))))
      refine fail _ ((Chg.grown g1).trans (Chg.grown g2)) hb2 ?_
      simp only [Uk]
      rw [if_pos (by simpa using hc)]
    · have h0 : ¬ l < 0 := by simpa using hc
      obtain ⟨m, rfl⟩ : ∃ m : Nat, l = m := ⟨l.toNat, by omega⟩
      have hm : m ≤ s.length := by omega
      refine Yi (Yj (Yk (Yd ?_)))
      refine ws rfl rfl ?_
      refine ws rfl rfl ?_
      refine ws rfl rfl ?_
      refine Yv rfl to_bytes rfl hb rfl ?_
      refine ws rfl rfl ?_
      refine ws rfl rfl ?_
      refine wl_slice3 (m := m) rfl rfl rfl es_bytes rfl (by omega) ?_
      refine ws rfl rfl ?_
      refine Ym (Yj (Yk (Yd ?_)))
      refine ws rfl rfl ?_
      refine ws rfl rfl ?_
      refine ws rfl rfl ?_
      refine ws rfl rfl ?_
      refine Yv rfl to_bytes rfl hb rfl ?_
      refine ws rfl rfl ?_
      refine UA (m := m) rfl rfl es_bytes rfl hm ?_
      refine ws rfl rfl ?_
      refine ws rfl rfl ?_
      refine YJ rfl rfl to_bytes rfl hb rfl (fun w1 hb1 g1 _ => ?_)
      refine Ym (Yj (Yk (Yd ?_)))
      refine ws rfl rfl ?_
      refine ws rfl rfl ?_
      refine Ym (Yj (Yn (Yt rfl rfl ?_)))
      have hg := Chg.grown g1
      have hns : ¬ (fun x => x = rb) sb := fun e => hne e.symm
      have hd := (hsv.drop hm).chg hg hns
      have ht := (hsv.take hm).chg hg hns
      rcases hst with ⟨rfl, hs0, ha0, hc0⟩ | rfl
      · refine ⟨_, s.take m, none, rfl, hg, ?_, ht, by simp; omega, rfl⟩
        subst hs0 ha0 hc0
        have : m = 0 := by simpa using hm
        subst this
        exact ⟨e, hb1⟩
      · refine ⟨_, s.take m, some (s.drop m), rfl, hg, hd.rdr hb1 (by simp; omega), ht, by simp; omega, ?_⟩
        simp only [Ua, Uk, Yd8]
        rw [if_neg (by omega)]
        simp only [Int.toNat_natCast]
        rw [if_pos hm]
        exact ⟨rfl, rfl⟩
theorem fn_ok (w : World) (rb sb : Nat) (st : Option (List UInt8)) (hr : Rdr w rb sb st) :
    Calls Tryz.prog 117 #[.pointer (some ⟨rb, 0, none⟩)] w fun e w' => e = .returned (.bool st.isSome) ∧ w' = w := by
  obtain ⟨a, c, s, e, hb, hle, hlim, hsv, hst⟩ := hr.view
  refine enter Tryz.func117 rfl Tryz.ntmps117 rfl ?_
  refine Yk (Yd (YB rfl rfl (Ym (Yj ?_))))
  refine Yk (Yd ?_)
  refine ws rfl rfl ?_
  refine ws rfl rfl ?_
  refine ws rfl rfl ?_
  refine Yv rfl to_bool rfl hb rfl ?_
  refine ws rfl rfl ?_
  refine ws rfl rfl ?_
  refine Ym (Yj (Yn (Yt rfl rfl ⟨?_, rfl⟩)))
  cases st <;> rfl
theorem fn_complete (w : World) (rb sb : Nat) (st : Option (List UInt8)) (ev : Value) (hr : Rdr w rb sb st) (hg : w.cell? ⟨1, 0, none⟩ = some ev) :
    Calls Tryz.prog 118 #[.pointer (some ⟨rb, 0, none⟩)] w fun e w' => e = .returned (endV ev st) ∧ w' = w := by
  obtain ⟨a, c, s, e, hb, hle, hlim, hsv, hst⟩ := hr.view
  refine enter Tryz.func118 rfl Tryz.ntmps118 rfl ?_
  refine Yk (Yd (YB rfl rfl (Ym (Yj ?_))))
  refine Yk (Yk (Yd ?_))
  refine ws rfl rfl ?_
  refine ws rfl rfl ?_
  refine ws rfl rfl ?_
  refine Yv rfl to_bool rfl hb rfl ?_
  refine Ym (Yj ?_)
  cases st with
  | none =>
    refine VG rfl (fun _ => ?_) (fun h => by cases h)
    refine Yk (Yd ?_)
    refine Xs rfl (by kernel_rfl) rfl hg ?_
    refine ws rfl rfl ?_
    exact Ym (Yj (Yn (Ye (Yt rfl rfl ⟨rfl, rfl⟩))))
  | some s' =>
    refine VG rfl (fun h => by cases h) (fun _ => ?_)
    refine Yi (Yj (Yk (Yd ?_)))
    refine ws rfl rfl ?_
    exact Ym (Yj (Yn (Yt rfl rfl ⟨rfl, rfl⟩)))
end Go.Proofs.YtgjplodgdgaakaaGreatDoor.Rdk
