/- All plain operations behind one rule: what an operation that only reads slots puts into its own. Over any program. -/
import Derived.Test.YtaoecdeljfdmeaaTree
import Derived.Test.YtaoecdeljfdmeaaStep3
namespace Go.Proofs.Ytaoecdeljfdmeaa
open Go Go.RowKit

/-- What the rule knows of the program's types: where fields lie; which types are of slices. -/
structure Tbl where
  fo : List (Nat × Nat × Nat)
  el : List Nat
def Tbl.off : List (Nat × Nat × Nat) → Nat → Nat → Option Nat
  | [], _, _ => none
  | x :: r, s, f => bif Nat.beq x.1 s && Nat.beq x.2.1 f then some x.2.2 else Tbl.off r s f
def Tbl.has : List Nat → Nat → Bool
  | [], _ => false
  | x :: r, t => bif Nat.beq x t then true else Tbl.has r t
def Tbl.ok (P : Program) (T : Tbl) : Bool :=
  (T.fo.all fun x => match fieldOff P x.1 x.2.1 with | some o => Nat.beq o x.2.2 | none => false) && T.el.all fun t => (elemSize P t).isSome
theorem Tbl.off_ok {P : Program} : ∀ {l : List (Nat × Nat × Nat)} {s f o : Nat}, (l.all fun x => match fieldOff P x.1 x.2.1 with | some o => Nat.beq o x.2.2 | none => false) = true → Tbl.off l s f = some o → fieldOff P s f = some o
  | [], _, _, _, _, h => by cases h
  | x :: r, s, f, o, hl, h => by
    simp only [List.all_cons, Bool.and_eq_true] at hl
    simp only [Tbl.off] at h
    cases hb : Nat.beq x.1 s && Nat.beq x.2.1 f with
    | true =>
      rw [hb] at h
      simp only [cond_true, Option.some.injEq] at h
      simp only [Bool.and_eq_true] at hb
      have h1 := beq_out hb.1
      have h2 := beq_out hb.2
      have h3 := hl.1
      split at h3
      · rename_i o' ho
        have := beq_out h3
        rw [← h1, ← h2, ho, this, h]
      · cases h3
    | false => rw [hb] at h; exact Tbl.off_ok hl.2 h
theorem Tbl.has_ok {P : Program} : ∀ {l : List Nat} {t : Nat}, (l.all fun t => (elemSize P t).isSome) = true → Tbl.has l t = true → (elemSize P t).isSome = true
  | [], _, _, h => by cases h
  | x :: r, t, hl, h => by
    simp only [List.all_cons, Bool.and_eq_true] at hl
    simp only [Tbl.has] at h
    cases hb : Nat.beq x t with
    | true => rw [← beq_out hb]; exact hl.1
    | false => rw [hb] at h; exact Tbl.has_ok hl.2 h

def kEq : IntKind → IntKind → Bool := fun a b => decide (a = b)
def cmpV (op : BinOp) (m n : Int) : Option Value :=
  match op with
  | .lss => some (.bool (decide (m < n)))
  | .leq => some (.bool (decide (m ≤ n)))
  | .gtr => some (.bool (decide (n < m)))
  | .geq => some (.bool (decide (n ≤ m)))
  | .eql => some (.bool (m == n))
  | .neq => some (.bool (m != n))
  | _ => none
def stepOp (T : Tbl) (L : Sl) : Op → Option Value
  | .move x => ev L x
  | .assign x => ev L x
  | .nilCheck x => match ev L x with | some (.pointer (some p)) => some (.pointer (some p)) | _ => none
  | .fieldAddr s x f => match ev L x with
    | some (.pointer (some ⟨b, o, none⟩)) => (match Tbl.off T.fo s f with | some off => some (.pointer (some ⟨b, o + off, none⟩)) | none => none)
    | _ => none
  | .binOp op _ x y _ => match ev L x with
    | some (.int kk m) => (match ev L y with | some (.int k' n) => bif kEq kk k' then cmpV op m n else none | _ => none)
    | _ => none
  | .unOp .not _ x => match ev L x with | some (.bool b) => some (.bool (!b)) | _ => none
  | .pick c x y => match ev L c with | some (.bool b) => ev L (bif b then x else y) | _ => none
  | .call ⟨.builtin .len, ⟨[x]⟩, ⟨[t]⟩⟩ => match ev L x with | some (.slice _ n _) => bif Tbl.has T.el t then some (.int .i64 n) else none | _ => none
  | _ => none

section
variable {P : Program} {ops : Array Oper} {Q : Exit → Act → World → Prop} {N : Nat} {rest : List Oper} {L : Sl} {w : World} {d : Nat} {ty : TypeId} {pos : String} {aft : Array Edge}
theorem wl_step (T : Tbl) (hT : T.ok P = true) {o : Op} {v : Value} (hs : stepOp T L o = some v) (hd : Nat.blt d N = true) (h : WL rest P ops Q N ((d, v) :: L) w) : WL (⟨some d, o, ty, pos, aft, none⟩ :: rest) P ops Q N L w := by
  simp only [Tbl.ok, Bool.and_eq_true] at hT
  unfold stepOp at hs
  split at hs
  · exact wl_move hs hd h
  · exact wl_assign hs hd h
  · split at hs
    · rename_i hx; cases hs; exact wl_nilCheck hx hd h
    · cases hs
  · split at hs
    · rename_i hx
      split at hs
      · rename_i off ho; cases hs; exact wl_fieldAddr hx (Tbl.off_ok hT.1 ho) hd h
      · cases hs
    · cases hs
  · split at hs
    · rename_i hx
      split at hs
      · rename_i kk m _ k' n hy
        cases hk : kEq kk k' with
        | false => rw [hk] at hs; cases hs
        | true =>
          rw [hk] at hs
          have hkk : kk = k' := of_decide_eq_true hk
          subst hkk
          simp only [cond_true] at hs
          unfold cmpV at hs
          split at hs
          · cases hs; exact wl_lss hx hy hd h
          · cases hs; exact wl_leq hx hy hd h
          · cases hs; exact wl_gtr hx hy hd h
          · cases hs; exact wl_geq hx hy hd h
          · cases hs; exact wl_eql hx hy hd h
          · cases hs; exact wl_neq hx hy hd h
          · cases hs
      · cases hs
    · cases hs
  · split at hs
    · rename_i hx; cases hs; exact wl_not hx hd h
    · cases hs
  · split at hs
    · rename_i hx; exact wl_pick hx hd hs h
    · cases hs
  · rename_i x t
    split at hs
    · rename_i hx
      cases hb : Tbl.has T.el t with
      | false => rw [hb] at hs; cases hs
      | true => rw [hb] at hs; cases hs; exact wl_len hx (Tbl.has_ok hT.2 hb) hd h
    · cases hs
  · cases hs
end
end Go.Proofs.Ytaoecdeljfdmeaa
