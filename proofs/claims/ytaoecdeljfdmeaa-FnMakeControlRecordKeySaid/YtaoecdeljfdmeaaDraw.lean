/- Statements whose order Go leaves open: whatever the order, each operation that only reads puts its one value into its slot, and those that act follow each other. Over any program. -/
import Derived.Test.YtaoecdeljfdmeaaCode
import Derived.Orders
namespace Go.Proofs.Ytaoecdeljfdmeaa
open Go Go.RowKit

/-- The operation i comes to the value v and leaves the world alone. -/
def Gives (P : Program) (ops : List Oper) (i : Nat) (v : Value) (a : Act) (w : World) : Prop :=
  match ops[i]? with
  | none => False
  | some o => (Region.wanted o (yielded ops.toArray a.tmps) = true ∧ (execOp a.eval o).run P w = .ok (.value v) w) ∨ (Region.wanted o (yielded ops.toArray a.tmps) = false ∧ v = undef)

def dstOf (ops : List Oper) (i : Nat) : Option Tmp := (ops[i]?).bind (·.dst)
/-- What must stand ahead of operation i. -/
def predsOf (ops : List Oper) (i : Nat) : List Nat := match ops[i]? with | some o => (o.after.toList.filter (Region.binds .any)).map (·.on) | none => []
def acyc (ops : List Oper) : Bool := (List.range ops.length).all fun i => (predsOf ops i).all fun j => Nat.blt j i

theorem ready_spec {ops : Array Oper} {l : Array Bool} {i : Nat} (h : i ∈ Region.ready .any ops l) : i < ops.size ∧ l.getD i true = false ∧ ∀ j ∈ predsOf ops.toList i, l.getD j false = true := by
  unfold Region.ready at h
  simp only [List.mem_filter, List.mem_range, Bool.and_eq_true, Bool.not_eq_true'] at h
  obtain ⟨h1, h2, h3⟩ := h
  refine ⟨h1, h2, fun j hj => ?_⟩
  unfold predsOf at hj
  have : ops.toList[i]? = ops[i]? := by simp
  rw [this] at hj
  cases ho : ops[i]? with
  | none => rw [ho] at hj; cases hj
  | some o =>
    rw [ho] at hj h3
    simp only [Option.map_some, Option.getD_some, Array.all_eq_true'] at h3
    simp only [List.mem_map, List.mem_filter] at hj
    obtain ⟨e, ⟨he, hb⟩, rfl⟩ := hj
    have := h3 e (by simpa using he)
    simpa [hb] using this

theorem ready_ne {ops : Array Oper} {l : Array Bool} (hac : acyc ops.toList = true) (hsz : l.size = ops.size) (hn : ∃ i, i < ops.size ∧ l.getD i true = false) : Region.ready .any ops l ≠ [] := by
  -- the least one that is not listed is ready
  have : ∃ i, (i < ops.size ∧ l.getD i true = false) ∧ ∀ j, j < i → ¬ (j < ops.size ∧ l.getD j true = false) := by
    obtain ⟨i, hi⟩ := hn
    induction i using Nat.strongRecOn with
    | _ i ih =>
      by_cases h : ∃ j, j < i ∧ (j < ops.size ∧ l.getD j true = false)
      · obtain ⟨j, hj, hj2⟩ := h; exact ih j hj hj2
      · exact ⟨i, hi, fun j hj hj2 => h ⟨j, hj, hj2⟩⟩
  obtain ⟨i, ⟨hi, hl⟩, hmin⟩ := this
  intro hnil
  have : i ∈ Region.ready .any ops l := by
    unfold Region.ready
    simp only [List.mem_filter, List.mem_range, Bool.and_eq_true, Bool.not_eq_true']
    refine ⟨hi, hl, ?_⟩
    have ho : ops[i]? = some ops[i] := Array.getElem?_eq_getElem hi
    rw [ho]
    simp only [Option.map_some, Option.getD_some, Array.all_eq_true']
    intro e he
    cases hb : Region.binds .any e with
    | false => simp
    | true =>
      have hm : e.on ∈ predsOf ops.toList i := by
        unfold predsOf
        have : ops.toList[i]? = some ops[i] := by simp
        rw [this]
        exact List.mem_map.2 ⟨e, List.mem_filter.2 ⟨by simpa using he, hb⟩, rfl⟩
      have hlt : e.on < i := by
        unfold acyc at hac
        have h1 := List.all_eq_true.1 hac i (List.mem_range.2 (by simpa using hi))
        have h2 := List.all_eq_true.1 h1 _ hm
        exact Nat.le_of_ble_eq_true h2
      have := hmin e.on hlt
      have hlt2 : e.on < ops.size := by omega
      have h3 : l.getD e.on true = true := by
        cases hx : l.getD e.on true with
        | true => rfl
        | false => exact absurd ⟨hlt2, hx⟩ this
      have h4 : l.getD e.on false = true := by
        have hsz2 : e.on < l.size := by omega
        simp only [Array.getD_eq_getD_getElem?, Array.getElem?_eq_getElem hsz2, Option.getD_some] at h3 ⊢
        exact h3
      simp [h4]
  rw [hnil] at this
  cases this

/-- How many are not listed yet. -/
def unl (l : Array Bool) : Nat := l.toList.countP (· == false)
theorem unl_set {l : Array Bool} {i : Nat} (hi : i < l.size) (h : l.getD i true = false) : unl (l.setIfInBounds i true) + 1 = unl l := by
  unfold unl
  have hg : l.toList[i]? = some false := by
    simp only [Array.getD_eq_getD_getElem?, Array.getElem?_eq_getElem hi, Option.getD_some] at h
    simp [hi, h]
  rw [Array.toList_setIfInBounds]
  generalize l.toList = xs at hg
  clear hi h
  induction xs generalizing i with
  | nil => simp at hg
  | cons x xs ih =>
    cases i with
    | zero => simp at hg; subst hg; simp
    | succ i =>
      have := ih (by simpa using hg)
      simp only [List.set_cons_succ, List.countP_cons]
      omega
theorem unl_zero {l : Array Bool} (h : unl l = 0) {i : Nat} (hi : i < l.size) : l.getD i false = true := by
  unfold unl at h
  rw [List.countP_eq_zero] at h
  have := h l[i] (by simp)
  simp only [Array.getD_eq_getD_getElem?, Array.getElem?_eq_getElem hi, Option.getD_some]
  simpa using this
theorem unl_pos {l : Array Bool} (h : unl l ≠ 0) : ∃ i, i < l.size ∧ l.getD i true = false := by
  unfold unl at h
  obtain ⟨x, hx, hx2⟩ := List.countP_pos_iff.1 (Nat.pos_of_ne_zero h)
  obtain ⟨i, hi, rfl⟩ := List.getElem_of_mem hx
  refine ⟨i, by simpa using hi, ?_⟩
  have hi' : i < l.size := by simpa using hi
  simp only [Array.getD_eq_getD_getElem?, Array.getElem?_eq_getElem hi', Option.getD_some]
  simpa using hx2

/-- The operation does something that ends, with a value for its slot, in a world of which R holds. -/
def Does (P : Program) (o : Oper) (a : Act) (w : World) (R : Value → World → Prop) : Prop :=
  ∀ (K : Act → World → Prop) (Q : Exit → Act → World → Prop), (∀ v w', R v w' → K (a.put o.dst v) w') → o.wp P a w K Q

theorem does_of {P : Program} {o : Oper} {a : Act} {w w' : World} {R : Value → World → Prop} {v : Value} (hr : (execOp a.eval o).run P w = .ok (.value v) w') (h : R v w') : Does P o a w R := by
  intro K Q hK
  unfold Oper.wp
  rw [hr]
  exact hK _ _ h
theorem does_skip {P : Program} {o : Oper} {a : Act} {w w' : World} {R : Value → World → Prop} (hr : (execOp a.eval o).run P w = .ok .skip w') (h : R undef w') : Does P o a w R := by
  intro K Q hK
  unfold Oper.wp
  rw [hr]
  exact hK _ _ h

/-- The slots of what has acted, the newest first. -/
def chL (ops : List Oper) : List Nat → List Value → Sl
  | i :: r, v :: vs => match dstOf ops i with | some d => (d, v) :: chL ops r vs | none => chL ops r vs
  | _, _ => []
/-- The slots of those that only read and that S names. -/
def flL (ops : List Oper) (S : Nat → Bool) : List (Nat × Value) → Sl
  | [] => []
  | p :: r => if S p.1 then (match dstOf ops p.1 with | some d => (d, p.2) :: flL ops S r | none => flL ops S r) else flL ops S r

theorem lk_append (A B : Sl) (t : Nat) : lk (A ++ B) t = match lk A t with | some v => some v | none => lk B t := by
  induction A with
  | nil => rfl
  | cons p A ih =>
    simp only [List.cons_append, lk]
    cases Nat.beq p.1 t with
    | true => rfl
    | false => simpa using ih
theorem lk_mem {A : Sl} {t : Nat} {v : Value} (h : lk A t = some v) : (t, v) ∈ A := by
  induction A with
  | nil => cases h
  | cons p A ih =>
    simp only [lk] at h
    cases hb : Nat.beq p.1 t with
    | true => rw [hb] at h; simp at h; have := beq_out hb; subst this; subst h; simp
    | false => rw [hb] at h; exact List.mem_cons_of_mem _ (ih h)
theorem Kn.mix {N : Nat} {a : Act} {A F L : Sl} (h : Kn N a (A ++ L)) (hF : ∀ p ∈ F, gt a p.1 = p.2) : Kn N a (A ++ (F ++ L)) := by
  refine ⟨h.size, h.defers, fun t v e => ?_⟩
  rw [lk_append, lk_append] at e
  cases hA : lk A t with
  | some u => rw [hA] at e; simp at e; subst e; exact h.at_ t u (by rw [lk_append, hA])
  | none =>
    rw [hA] at e; simp only at e
    cases hf : lk F t with
    | some u => rw [hf] at e; simp at e; subst e; exact hF _ (lk_mem hf)
    | none => rw [hf] at e; exact h.at_ t v (by rw [lk_append, hA]; exact e)

/-- No two operations share a slot, and those that only read touch none of L's. -/
def apart (ops : List Oper) (L : Sl) (fl : List (Nat × Value)) (ch : List Nat) : Bool :=
  (fl.all fun p => match dstOf ops p.1 with | some d => (lk L d).isNone && (ch.all fun c => dstOf ops c != some d) && (fl.all fun q => Nat.beq q.1 p.1 || dstOf ops q.1 != some d) | none => true)
/-- Those that act stand one behind the other; every operation is of the one kind or of the other. -/
def chained (ops : List Oper) : List Nat → Bool
  | i :: j :: r => (predsOf ops i).contains j && chained ops (j :: r)
  | _ => true
def covered (ops : List Oper) (fl : List (Nat × Value)) (ch : List Nat) : Bool :=
  (List.range ops.length).all fun i => (fl.any fun p => Nat.beq p.1 i) || ch.contains i

theorem Kn.putOther {N : Nat} {a : Act} {A : Sl} (h : Kn N a A) {d : Nat} (v : Value) (hd : lk A d = none) : Kn N (a.put (some d) v) A := by
  refine ⟨(put_size a _ v).trans h.size, (put_defers a _ v).trans h.defers, fun t u e => ?_⟩
  have hne : t ≠ d := by intro e'; subst e'; rw [hd] at e; cases e
  rw [gt_put_ne a d t v hne]
  exact h.at_ t u e
theorem chL_none {ops : List Oper} {d : Nat} : ∀ (post : List Nat) (vals : List Value), (∀ c ∈ post, dstOf ops c ≠ some d) → lk (chL ops post vals) d = none
  | [], _, _ => by simp [chL, lk]
  | _ :: _, [], _ => by simp [chL, lk]
  | c :: r, v :: vs, h => by
    have h1 := h c (by simp)
    have h2 := chL_none r vs (fun c hc => h c (by simp [hc]))
    simp only [chL]
    cases hd : dstOf ops c with
    | none => exact h2
    | some d' =>
      simp only [lk]
      have : Nat.beq d' d = false := by
        cases hb : Nat.beq d' d with
        | false => rfl
        | true => rw [hd, beq_out hb] at h1; exact absurd rfl h1
      rw [this]; exact h2
theorem flL_true {ops : List Oper} {S : Nat → Bool} {a : Act} : ∀ (fl : List (Nat × Value)), (∀ p ∈ fl, S p.1 = true → ∀ d, dstOf ops p.1 = some d → gt a d = p.2) → ∀ q ∈ flL ops S fl, gt a q.1 = q.2
  | [], _, q, hq => by cases hq
  | p :: r, h, q, hq => by
    simp only [flL] at hq
    have ih := flL_true r (fun p hp => h p (by simp [hp]))
    cases hS : S p.1 with
    | false => rw [hS] at hq; exact ih q (by simpa using hq)
    | true =>
      rw [hS] at hq
      cases hd : dstOf ops p.1 with
      | none => rw [hd] at hq; exact ih q (by simpa using hq)
      | some d =>
        rw [hd] at hq
        simp only [if_true, List.mem_cons] at hq
        rcases hq with rfl | hq
        · exact h p (by simp) hS d hd
        · exact ih q hq
theorem last_of_pre {ops : List Oper} {l : Array Bool} {i : Nat} (hpr : ∀ j ∈ predsOf ops i, l.getD j false = true) : ∀ (pre post : List Nat), chained ops (pre ++ post) = true → (∀ c ∈ pre, l.getD c true = false) → i ∈ pre → (pre ++ post).Nodup → ∃ pre', pre = pre' ++ [i]
  | [], _, _, _, hi, _ => by cases hi
  | [x], _, _, _, hi, _ => by simp at hi; subst hi; exact ⟨[], rfl⟩
  | x :: y :: r, post, hc, hl, hi, hn => by
    simp only [List.cons_append, chained, Bool.and_eq_true] at hc
    by_cases hx : i = x
    · subst hx
      have h1 : l.getD y false = true := hpr y (by simpa using hc.1)
      have h2 := hl y (by simp)
      exfalso
      simp only [Array.getD_eq_getD_getElem?] at h1 h2
      cases hy : l[y]? with
      | none => rw [hy] at h1; simp at h1
      | some b => rw [hy] at h1 h2; simp at h1 h2; rw [h1] at h2; cases h2
    · have hi' : i ∈ y :: r := by simpa [hx] using hi
      obtain ⟨pre', hp⟩ := last_of_pre hpr (y :: r) post hc.2 (fun c hc => hl c (by simp [hc])) hi' (by simpa using (List.nodup_cons.1 hn).2)
      exact ⟨x :: pre', by rw [hp]; rfl⟩
theorem getD_set {l : Array Bool} {i j : Nat} {b : Bool} (hi : i < l.size) : (l.setIfInBounds i true).getD j b = if j = i then true else l.getD j b := by
  simp only [Array.getD_eq_getD_getElem?, Array.getElem?_setIfInBounds]
  by_cases h : i = j
  · subst h; simp [hi]
  · rw [if_neg (fun e : j = i => h e.symm)]; simp [h]

/-- One that acts runs in any case, or its guard stands in what was read. -/
def gOk (ops : List Oper) (fl : List (Nat × Value)) (c : Nat) : Bool :=
  match ops[c]? with
  | some o => (match o.guard with
    | none => true
    | some (j, want) => (match dstOf ops j with
      | some d => (flL ops (fun j => (predsOf ops c).contains j) fl).any fun q => Nat.beq q.1 d && (match q.2 with | .bool b => b == want | _ => false)
      | none => false))
  | none => false
theorem gOk_out {ops : List Oper} {fl : List (Nat × Value)} {c : Nat} {o : Oper} {a : Act} (h : gOk ops fl c = true) (ho : ops[c]? = some o) (hp : ∀ q ∈ flL ops (fun j => (predsOf ops c).contains j) fl, gt a q.1 = q.2) :
    Region.wanted o (yielded ops.toArray a.tmps) = true := by
  unfold gOk at h
  rw [ho] at h
  simp only [] at h
  unfold Region.wanted
  cases hg : o.guard with
  | none => rfl
  | some jw =>
    obtain ⟨j, want⟩ := jw
    rw [hg] at h
    simp only [] at h
    cases hd : dstOf ops j with
    | none => rw [hd] at h; cases h
    | some d =>
      rw [hd] at h
      obtain ⟨q, hq, hqb⟩ := List.any_eq_true.1 h
      rw [Bool.and_eq_true] at hqb
      have hqd := beq_out hqb.1
      have hgt := hp q hq
      have hv : q.2 = .bool want := by
        have := hqb.2
        split at this
        · rename_i b hb; rw [hb]; simp at this; rw [this]
        · cases this
      rw [hv, hqd] at hgt
      have hd' : (ops[j]?).bind (·.dst) = some d := hd
      have hy : yielded ops.toArray a.tmps j = some want := by
        simp only [yielded, List.getElem?_toArray, hd', Option.bind_some]
        simp only [gt, Array.getD_eq_getD_getElem?] at hgt
        cases ht : a.tmps[d]? with
        | none => rw [ht] at hgt; simp [undef] at hgt
        | some v => rw [ht] at hgt; simp at hgt; subst hgt; rfl
      simp [hy]
/-- What is owed for those that act, the last one first. -/
def ChOk (P : Program) (ops : List Oper) (N : Nat) (L : Sl) (fl : List (Nat × Value)) (C : List Value → World → Prop) : List Nat → Prop
  | [] => True
  | c :: post => (∀ vals w', vals.length = post.length → C vals w' → ∀ a, Kn N a (chL ops post vals ++ (flL ops (fun j => (predsOf ops c).contains j) fl ++ L)) → ∃ o, ops[c]? = some o ∧ Does P o a w' fun v w'' => C (v :: vals) w'') ∧ ChOk P ops N L fl C post
theorem ChOk.at {P : Program} {ops : List Oper} {N : Nat} {L : Sl} {fl : List (Nat × Value)} {C : List Value → World → Prop} {c : Nat} {post : List Nat} : ∀ (pre : List Nat), ChOk P ops N L fl C (pre ++ c :: post) →
    ∀ vals w', vals.length = post.length → C vals w' → ∀ a, Kn N a (chL ops post vals ++ (flL ops (fun j => (predsOf ops c).contains j) fl ++ L)) → ∃ o, ops[c]? = some o ∧ Does P o a w' fun v w'' => C (v :: vals) w''
  | [], h => h.1
  | _ :: pre, h => ChOk.at pre h.2

/-- A statement whose order is open. 'fl': the operations that only read, with their values; 'ch': those that act, THE LAST ONE FIRST; C: what holds of the world when the last so many have acted, their values the newest first. -/
theorem wc_parS {P : Program} {Q : Exit → Act → World → Prop} {N : Nat} {L : Sl} {w : World} {id : Nat} {ops : List Oper} (fl : List (Nat × Value)) (ch : List Nat) (C : List Value → World → Prop)
    (hm : P.follows .mixedOrders = true) (hac : acyc ops = true) (hap : apart ops L fl ch = true) (hcv : covered ops fl ch = true)
    (hdisj : (fl.all fun p => !ch.contains p.1) = true) (hflt : (fl.all fun p => Nat.blt p.1 ops.length) = true) (hfnd : (fl.map (·.1)).Nodup) (hchn : chained ops ch = true) (hlt : (ch.all fun c => Nat.blt c ops.length) = true) (hnd : ch.Nodup)
    (hhead : (fl.all fun p => match ch with | h :: _ => (predsOf ops h).contains p.1 || (match dstOf ops h with | some d => (lk L d).isNone | none => true) | [] => true) = true) (htail : ((ch.drop 1).all fun c => match dstOf ops c with | some d => (lk L d).isNone | none => true) = true)
    (hdst : (ops.all fun o => match o.dst with | some d => Nat.blt d N | none => true) = true) (hgd : (ch.all fun c => gOk ops fl c) = true)
    (h0 : C [] w.drew)
    (hfl : ∀ p ∈ fl, ∀ vals w', C vals w' → (∀ c ∈ ch.drop (ch.length - vals.length), (predsOf ops c).contains p.1 = false) → ∀ a, Kn N a (flL ops (fun j => (predsOf ops p.1).contains j) fl ++ L) → Gives P ops p.1 p.2 a w')
    (hch : ChOk P ops N L fl C ch)
    (hend : ∀ vals w', vals.length = ch.length → C vals w' → QK .normal Q N (chL ops ch vals ++ (flL ops (fun _ => true) fl ++ L)) w') : WC (.region id ops.toArray true) P Q N L w := by
  intro a0 k0
  refine wp_region_any hm ?_
  have main : ∀ fuel (l : Array Bool) (a : Act) (w' : World), l.size = ops.length → unl l = fuel → (∀ c, l.getD c false = true → ∀ j ∈ predsOf ops c, l.getD j false = true) →
      (∃ pre post vals, ch = pre ++ post ∧ vals.length = post.length ∧ (∀ c ∈ pre, l.getD c true = false) ∧ (∀ c ∈ post, l.getD c false = true) ∧ C vals w' ∧ Kn N a (chL ops post vals ++ L) ∧ (pre ≠ [] ∨ (∀ h r, ch = h :: r → ∀ d, dstOf ops h = some d → lk L d = none) → Kn N a L) ∧
        (∀ p ∈ fl, l.getD p.1 false = true → ∀ d, dstOf ops p.1 = some d → gt a d = p.2)) → wpAny P .any ops.toArray Q fuel l a w' := by
    intro fuel
    induction fuel with
    | zero =>
      rintro l a w' hsz hu hcl ⟨pre, post, vals, hce, hvl, hpre, hpost, hC, hK, hKL, hF⟩
      have hall : ∀ i, i < ops.length → l.getD i false = true := fun i hi => unl_zero hu (by rw [hsz]; exact hi)
      have hpe : pre = [] := by
        cases pre with
        | nil => rfl
        | cons c r =>
          exfalso
          have h1 := hpre c (by simp)
          have h2 : Nat.blt c ops.length = true := List.all_eq_true.1 hlt c (by rw [hce]; simp)
          have h3 := hall c (Nat.le_of_ble_eq_true h2)
          simp only [Array.getD_eq_getD_getElem?] at h1 h3
          cases hy : l[c]? with
          | none => rw [hy] at h3; simp at h3
          | some b => rw [hy] at h1 h3; simp at h1 h3; rw [h3] at h1; cases h1
      subst hpe
      simp only [List.nil_append] at hce
      subst hce
      refine ⟨?_, hend vals w' hvl hC a (hK.mix (flL_true fl (fun p hp _ d hd => hF p hp (hall _ (Nat.le_of_ble_eq_true (List.all_eq_true.1 hflt p hp))) d hd)))⟩
      cases hr : Region.ready .any ops.toArray l with
      | nil => rfl
      | cons i r =>
        exfalso
        obtain ⟨h1, h2, _⟩ := ready_spec (ops := ops.toArray) (l := l) (i := i) (by rw [hr]; simp)
        have h3 := hall i (by simpa using h1)
        simp only [Array.getD_eq_getD_getElem?] at h2 h3
        cases hy : l[i]? with
        | none => rw [hy] at h3; simp at h3
        | some b => rw [hy] at h2 h3; simp at h2 h3; rw [h3] at h2; cases h2
    | succ fuel ih =>
      rintro l a w' hsz hu hcl ⟨pre, post, vals, hce, hvl, hpre, hpost, hC, hK, hKL, hF⟩
      refine ⟨fun hnil => ?_, fun i hi => ?_⟩
      · exfalso
        obtain ⟨i, hi, hli⟩ := unl_pos (l := l) (by omega)
        exact ready_ne (ops := ops.toArray) (by simpa using hac) (by simpa using hsz) ⟨i, by simp; omega, hli⟩ hnil
      · obtain ⟨h1, h2, h3⟩ := ready_spec hi
        simp only [List.size_toArray] at h1
        have h3' : ∀ j ∈ predsOf ops i, l.getD j false = true := h3
        have hil : i < l.size := by omega
        have hu' : unl (l.setIfInBounds i true) = fuel := by have := unl_set hil h2; omega
        have hsz' : (l.setIfInBounds i true).size = ops.length := by simpa using hsz
        have ho : ops[i]? = some ops[i] := List.getElem?_eq_getElem h1
        have hoA : (ops.toArray)[i]? = some ops[i] := by simp
        have hcl' : ∀ c, (l.setIfInBounds i true).getD c false = true → ∀ j ∈ predsOf ops c, (l.setIfInBounds i true).getD j false = true := by
          intro c hc j hj
          rw [getD_set hil]
          by_cases ej : j = i
          · rw [if_pos ej]
          · rw [if_neg ej]
            rw [getD_set hil] at hc
            by_cases ec : c = i
            · subst ec; exact h3' j hj
            · rw [if_neg ec] at hc; exact hcl c hc j hj
        have hcov := List.all_eq_true.1 hcv i (List.mem_range.2 h1)
        have hpreds : ∀ q ∈ flL ops (fun j => (predsOf ops i).contains j) fl, gt a q.1 = q.2 :=
          flL_true fl (fun p hp hS d hd => hF p hp (h3' p.1 (by simpa using hS)) d hd)
        have hKm := hK.mix hpreds
        by_cases hic : i ∈ ch
        · -- one that acts
          have hip : i ∈ pre := by
            rw [hce] at hic
            rcases List.mem_append.1 hic with h | h
            · exact h
            · exfalso
              have h4 := hpost i h
              simp only [Array.getD_eq_getD_getElem?, Array.getElem?_eq_getElem hil, Option.getD_some] at h2 h4
              rw [h4] at h2; cases h2
          obtain ⟨pre', rfl⟩ := last_of_pre h3' pre post (by rw [← hce]; exact hchn) hpre hip (by rw [← hce]; exact hnd)
          have hce' : ch = pre' ++ i :: post := by rw [hce]; simp
          have hd : Does P ops[i] a w' fun v w'' => C (v :: vals) w'' := by
            obtain ⟨o, ho2, hd2⟩ := ChOk.at pre' (hce' ▸ hch) vals w' hvl hC a hKm
            rw [ho] at ho2; cases ho2; exact hd2
          have hwt := gOk_out (List.all_eq_true.1 hgd i hic) ho hpreds
          unfold wpOp
          rw [hoA]
          simp only [hwt, if_true]
          refine .inl (hd _ _ (fun v w'' hv => ih _ _ _ hsz' hu' hcl' ⟨pre', i :: post, v :: vals, hce', by simp [hvl], ?_, ?_, hv, ?_, ?_, ?_⟩))
          · intro c hc
            rw [getD_set hil, if_neg]
            · exact hpre c (by simp [hc])
            · rintro rfl
              rw [hce'] at hnd
              exact (List.nodup_append.1 hnd).2.2 c hc c (by simp) rfl
          · intro c hc
            rw [getD_set hil]
            by_cases e : c = i
            · rw [if_pos e]
            · rw [if_neg e]; exact hpost c (by simpa [e] using hc)
          · simp only [chL]
            have hdo : dstOf ops i = ops[i].dst := by simp [dstOf, ho]
            rw [hdo]
            cases hdd : ops[i].dst with
            | none => exact hK
            | some d =>
              have hlt' : Nat.blt d N = true := by
                have := List.all_eq_true.1 hdst ops[i] (by simp)
                rw [hdd] at this; exact this
              exact hK.put v hlt'
          · intro hcond
            have hKL' := hKL (.inl (by simp))
            have hdo : dstOf ops i = ops[i].dst := by simp [dstOf, ho]
            cases hdd : ops[i].dst with
            | none => exact hKL'
            | some d =>
              refine hKL'.putOther _ ?_
              rw [hdd] at hdo
              cases pre' with
              | nil =>
                rcases hcond with h | h
                · exact absurd rfl h
                · exact h i post hce' d hdo
              | cons x r =>
                have h8 := List.all_eq_true.1 htail i (by rw [hce']; simp)
                rw [hdo] at h8
                simpa using h8
          · intro p hp hl d hd
            rw [getD_set hil] at hl
            have hne : p.1 ≠ i := by
              rintro rfl
              have := List.all_eq_true.1 hdisj p hp
              simp at this; exact this hic
            rw [if_neg hne] at hl
            have h5 := hF p hp hl d hd
            have h6 := List.all_eq_true.1 hap p hp
            rw [hd] at h6
            simp only [Bool.and_eq_true] at h6
            have h7 := List.all_eq_true.1 h6.1.2 i hic
            have hdo : dstOf ops i = ops[i].dst := by simp [dstOf, ho]
            rw [hdo] at h7
            cases hdd : ops[i].dst with
            | none => exact h5
            | some d' =>
              rw [hdd] at h7
              rw [gt_put_ne]
              · exact h5
              · rintro rfl; simp at h7
        · -- one that only reads
          have hif : ∃ p ∈ fl, p.1 = i := by
            rw [Bool.or_eq_true] at hcov
            rcases hcov with h | h
            · obtain ⟨p, hp, hb⟩ := List.any_eq_true.1 h
              exact ⟨p, hp, beq_out hb⟩
            · exact absurd (by simpa using h) hic
          obtain ⟨p, hp, rfl⟩ := hif
          have hKL' : Kn N a L := by
            refine hKL ?_
            cases pre with
            | cons x r => exact .inl (by simp)
            | nil =>
              refine .inr (fun h r hr d hd => ?_)
              have h9 := List.all_eq_true.1 hhead p hp
              rw [hr] at h9
              simp only [Bool.or_eq_true] at h9
              rcases h9 with h9 | h9
              · exfalso
                have hph : l.getD h false = true := hpost h (by rw [List.nil_append] at hce; rw [← hce, hr]; simp)
                have h10 := hcl h hph p.1 (by simpa using h9)
                simp only [Array.getD_eq_getD_getElem?, Array.getElem?_eq_getElem hil, Option.getD_some] at h2 h10
                rw [h10] at h2; cases h2
              · rw [hd] at h9; simpa using h9
          have hnp : ∀ c ∈ ch.drop (ch.length - vals.length), (predsOf ops c).contains p.1 = false := by
            have hdrop : ch.drop (ch.length - vals.length) = post := by
              rw [hce, hvl, List.length_append, Nat.add_sub_cancel, List.drop_left]
            rw [hdrop]
            intro c hc
            cases hcb : (predsOf ops c).contains p.1 with
            | false => rfl
            | true =>
              exfalso
              have h10 := hcl c (hpost c hc) p.1 (by simpa using hcb)
              simp only [Array.getD_eq_getD_getElem?, Array.getElem?_eq_getElem hil, Option.getD_some] at h2 h10
              rw [h10] at h2; cases h2
          have hgv := hfl p hp vals w' hC hnp a (by simpa using Kn.mix (A := []) hKL' hpreds)
          have hJ : ∀ a', (a' = a.put ops[p.1].dst p.2) → wpAny P .any ops.toArray Q fuel (l.setIfInBounds p.1 true) a' w' := by
            rintro a' rfl
            refine ih _ _ _ hsz' hu' hcl' ⟨pre, post, vals, hce, hvl, ?_, ?_, hC, ?_, ?_, ?_⟩
            · intro c hc
              rw [getD_set hil, if_neg]
              · exact hpre c hc
              · rintro rfl; exact hic (by rw [hce]; simp [hc])
            · intro c hc
              rw [getD_set hil]
              by_cases e : c = p.1
              · rw [if_pos e]
              · rw [if_neg e]; exact hpost c hc
            · have hdo : dstOf ops p.1 = ops[p.1].dst := by simp [dstOf, ho]
              cases hdd : ops[p.1].dst with
              | none => exact hK
              | some d =>
                have h6 := List.all_eq_true.1 hap p hp
                rw [hdo, hdd] at h6
                simp only [Bool.and_eq_true] at h6
                refine hK.putOther _ ?_
                rw [lk_append, chL_none post vals]
                · have := h6.1.1; simpa using this
                · intro c hc he
                  have := List.all_eq_true.1 h6.1.2 c (by rw [hce]; simp [hc])
                  rw [he] at this; simp at this
            · intro _
              have hdo : dstOf ops p.1 = ops[p.1].dst := by simp [dstOf, ho]
              cases hdd : ops[p.1].dst with
              | none => exact hKL'
              | some d =>
                have h6 := List.all_eq_true.1 hap p hp
                rw [hdo, hdd] at h6
                simp only [Bool.and_eq_true] at h6
                exact hKL'.putOther _ (by simpa using h6.1.1)
            · intro q hq hl d hd
              rw [getD_set hil] at hl
              have hdo : dstOf ops p.1 = ops[p.1].dst := by simp [dstOf, ho]
              by_cases e : q.1 = p.1
              · have hqp : q = p := by
                  have : ∀ (l : List (Nat × Value)), (l.map (·.1)).Nodup → ∀ x ∈ l, ∀ y ∈ l, x.1 = y.1 → x = y := by
                    intro l
                    induction l with
                    | nil => intro _ x hx; cases hx
                    | cons z l ih2 =>
                      intro hn x hx y hy he
                      simp only [List.map_cons, List.nodup_cons, List.mem_map] at hn
                      rcases List.mem_cons.1 hx with hx1 | hx1 <;> rcases List.mem_cons.1 hy with hy1 | hy1
                      · rw [hx1, hy1]
                      · exact absurd ⟨_, hy1, by rw [← he, hx1]⟩ hn.1
                      · exact absurd ⟨_, hx1, by rw [he, hy1]⟩ hn.1
                      · exact ih2 hn.2 x hx1 y hy1 he
                  exact this fl hfnd q hq p hp e
                subst hqp
                rw [hdo] at hd
                rw [hd, gt_put_same]
                have hlt' : Nat.blt d N = true := by
                  have := List.all_eq_true.1 hdst ops[q.1] (by simp)
                  rw [hd] at this; exact this
                rw [hK.size]; exact Nat.le_of_ble_eq_true hlt'
              · rw [if_neg e] at hl
                have h5 := hF q hq hl d hd
                cases hdd : ops[p.1].dst with
                | none => exact h5
                | some d' =>
                  rw [gt_put_ne]
                  · exact h5
                  · rintro rfl
                    have h6 := List.all_eq_true.1 hap p hp
                    rw [hdo, hdd] at h6
                    simp only [Bool.and_eq_true] at h6
                    have h7 := List.all_eq_true.1 h6.2 q hq
                    simp only [Bool.or_eq_true] at h7
                    rcases h7 with h7 | h7
                    · exact e (beq_out h7)
                    · rw [hd] at h7; simp at h7
          unfold wpOp
          rw [hoA]
          simp only []
          simp only [Gives, ho] at hgv
          rcases hgv with ⟨hwt, hr⟩ | ⟨hwt, hv⟩
          · rw [if_pos hwt]
            refine .inl ?_
            unfold Oper.wp
            rw [hr]
            exact hJ _ rfl
          · rw [if_neg (by rw [hwt]; simp)]
            exact hJ _ (by rw [hv])
  refine main _ _ _ _ (by simp) ?_ ?_ ⟨ch, [], [], by simp, rfl, ?_, by simp, h0, by simpa [chL] using k0, fun _ => k0, ?_⟩
  · simp [unl, List.countP_replicate]
  · intro c hc
    exfalso
    simp only [Array.getD_eq_getD_getElem?, Array.getElem?_replicate] at hc
    split at hc <;> simp at hc
  · intro c hc
    have h2 : Nat.blt c ops.length = true := List.all_eq_true.1 hlt c hc
    have h3 := Nat.le_of_ble_eq_true h2
    simp only [Array.getD_eq_getD_getElem?]
    rw [Array.getElem?_replicate, if_pos (by rw [List.size_toArray]; exact h3)]
    rfl
  · intro p hp hl
    exfalso
    simp only [Array.getD_eq_getD_getElem?, Array.getElem?_replicate] at hl
    split at hl <;> simp at hl
/-- A statement whose order is open. 'fl': the operations that only read, with their values; 'ch': those that act, THE LAST ONE FIRST; C: what holds of the world when the last so many have acted, their values the newest first. -/
theorem wc_par {P : Program} {Q : Exit → Act → World → Prop} {N : Nat} {L : Sl} {w : World} {id : Nat} {ops : List Oper} (fl : List (Nat × Value)) (ch : List Nat) (C : List Value → World → Prop)
    (hm : P.follows .mixedOrders = true) (hac : acyc ops = true) (hap : apart ops L fl ch = true) (hcv : covered ops fl ch = true)
    (hdisj : (fl.all fun p => !ch.contains p.1) = true) (hflt : (fl.all fun p => Nat.blt p.1 ops.length) = true) (hfnd : (fl.map (·.1)).Nodup) (hchn : chained ops ch = true) (hlt : (ch.all fun c => Nat.blt c ops.length) = true) (hnd : ch.Nodup)
    (hhead : (fl.all fun p => match ch with | h :: _ => (predsOf ops h).contains p.1 || (match dstOf ops h with | some d => (lk L d).isNone | none => true) | [] => true) = true) (htail : ((ch.drop 1).all fun c => match dstOf ops c with | some d => (lk L d).isNone | none => true) = true)
    (hdst : (ops.all fun o => match o.dst with | some d => Nat.blt d N | none => true) = true) (hgd : (ch.all fun c => gOk ops fl c) = true)
    (h0 : C [] w.drew)
    (hfl : ∀ p ∈ fl, ∀ vals w', C vals w' → ∀ a, Kn N a (flL ops (fun j => (predsOf ops p.1).contains j) fl ++ L) → Gives P ops p.1 p.2 a w')
    (hch : ChOk P ops N L fl C ch)
    (hend : ∀ vals w', vals.length = ch.length → C vals w' → QK .normal Q N (chL ops ch vals ++ (flL ops (fun _ => true) fl ++ L)) w') : WC (.region id ops.toArray true) P Q N L w := 
  wc_parS fl ch C hm hac hap hcv hdisj hflt hfnd hchn hlt hnd hhead htail hdst hgd h0 (fun p hp vals w' hC _ => hfl p hp vals w' hC) hch hend
end Go.Proofs.Ytaoecdeljfdmeaa
