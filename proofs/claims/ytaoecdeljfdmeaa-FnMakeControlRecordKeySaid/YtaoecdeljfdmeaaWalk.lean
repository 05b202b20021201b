/- The walk: what is known of the slots is a list of pairs (slot, value), the newest first; each rule takes one operation or one piece of code. Over any program. -/
import Derived.Test.YtaoecdeljfdmeaaStep2
namespace Go.Proofs.Ytaoecdeljfdmeaa
open Go Go.RowKit

abbrev Sl := List (Nat × Value)
def lk : Sl → Nat → Option Value
  | [], _ => none
  | kv :: r, t => bif Nat.beq kv.1 t then some kv.2 else lk r t
def ev (L : Sl) : Operand → Option Value
  | .tmp t => lk L t
  | .const v => some v
  | .global g => some (.pointer (some ⟨g, 0, none⟩))
  | .func f => some (.func (.func f) #[] #[])
def evs (L : Sl) : List Operand → Option (List Value)
  | [] => some []
  | x :: r => match ev L x with
    | some v => match evs L r with
      | some vs => some (v :: vs)
      | none => none
    | none => none

structure Kn (N : Nat) (a : Act) (L : Sl) : Prop where
  size : a.tmps.size = N
  defers : a.defers = []
  at_ : ∀ t v, lk L t = some v → gt a t = v

/-- L' says no more than L. -/
def Sub : Sl → Sl → Prop
  | [], _ => True
  | kv :: r, L => lk L kv.1 = some kv.2 ∧ Sub r L

theorem beq_out {a b : Nat} (h : Nat.beq a b = true) : a = b := Nat.eq_of_beq_eq_true h
theorem Sub.lk {L' L : Sl} (h : Sub L' L) : ∀ t v, lk L' t = some v → Go.Proofs.Ytaoecdeljfdmeaa.lk L t = some v := by
  induction L' with
  | nil => intro t v e; cases e
  | cons kv r ih =>
    intro t v e
    simp only [Go.Proofs.Ytaoecdeljfdmeaa.lk] at e
    cases hb : Nat.beq kv.1 t with
    | true => rw [hb] at e; simp at e; subst e; rw [← beq_out hb]; exact h.1
    | false => rw [hb] at e; exact ih h.2 t v e
theorem Kn.weaken {N : Nat} {a : Act} {L L' : Sl} (h : Kn N a L) (hs : Sub L' L) : Kn N a L' :=
  ⟨h.size, h.defers, fun t v e => h.at_ t v (hs.lk t v e)⟩
theorem Kn.eval {N : Nat} {a : Act} {L : Sl} (h : Kn N a L) {x : Operand} {v : Value} (e : ev L x = some v) : a.eval x = v := by
  cases x with
  | tmp t => exact h.at_ t v e
  | const c => simp only [ev, Option.some.injEq] at e; exact e
  | global g => simpa [ev, Act.eval] using e
  | func f => simpa [ev, Act.eval] using e
theorem Kn.evals {N : Nat} {a : Act} {L : Sl} (h : Kn N a L) : ∀ {xs : List Operand} {vs : List Value}, evs L xs = some vs → xs.map a.eval = vs
  | [], vs, e => by simpa [evs] using e
  | x :: r, vs, e => by
    simp only [evs] at e
    cases hx : ev L x with
    | none => rw [hx] at e; cases e
    | some v =>
      rw [hx] at e
      cases hr : evs L r with
      | none => rw [hr] at e; cases e
      | some us =>
        rw [hr] at e
        simp at e
        subst e
        simp [h.eval hx, h.evals hr]
theorem Kn.put {N : Nat} {a : Act} {L : Sl} (h : Kn N a L) {d : Nat} (v : Value) (hd : Nat.blt d N = true) : Kn N (a.put (some d) v) ((d, v) :: L) := by
  refine ⟨(put_size a _ v).trans h.size, (put_defers a _ v).trans h.defers, fun t u e => ?_⟩
  have hd' : d < a.tmps.size := by rw [h.size]; exact Nat.le_of_ble_eq_true hd
  simp only [lk] at e
  cases hb : Nat.beq d t with
  | true =>
    rw [hb] at e; simp at e
    have := beq_out hb; subst this
    rw [gt_put_same a d v hd']; exact e
  | false =>
    rw [hb] at e
    have hne : t ≠ d := by intro e'; subst e'; rw [Nat.beq_refl] at hb; cases hb
    rw [gt_put_ne a d t v hne]
    exact h.at_ t u e
theorem Kn.put0 {N : Nat} {a : Act} {L : Sl} (h : Kn N a L) (v : Value) : Kn N (a.put none v) L := h

def WL (rest : List Oper) (P : Program) (ops : Array Oper) (Q : Exit → Act → World → Prop) (N : Nat) (L : Sl) (w : World) : Prop := ∀ a, Kn N a L → wpList P ops Q rest a w
def WC (c : Code) (P : Program) (Q : Exit → Act → World → Prop) (N : Nat) (L : Sl) (w : World) : Prop := ∀ a, Kn N a L → c.wp P Q a w
def QK (e : Exit) (Q : Exit → Act → World → Prop) (N : Nat) (L : Sl) (w : World) : Prop := ∀ a, Kn N a L → Q e a w

section
variable {P : Program} {ops : Array Oper} {Q : Exit → Act → World → Prop} {N : Nat} {rest : List Oper} {L : Sl} {w : World} {d : Nat} {ty : TypeId} {pos : String} {aft : Array Edge}

theorem wl_nil (h : QK .normal Q N L w) : WL [] P ops Q N L w := fun a k => h a k
theorem wl_sub {L' : Sl} (hs : Sub L' L) (h : WL rest P ops Q N L' w) : WL rest P ops Q N L w := fun a k => h a (k.weaken hs)
theorem wl_move {x : Operand} {v : Value} (hx : ev L x = some v) (hd : Nat.blt d N = true) (h : WL rest P ops Q N ((d, v) :: L) w) : WL (⟨some d, .move x, ty, pos, aft, none⟩ :: rest) P ops Q N L w :=
  fun _ k => st_move (by rw [k.eval hx]; exact h _ (k.put v hd))
theorem wl_assign {x : Operand} {v : Value} (hx : ev L x = some v) (hd : Nat.blt d N = true) (h : WL rest P ops Q N ((d, v) :: L) w) : WL (⟨some d, .assign x, ty, pos, aft, none⟩ :: rest) P ops Q N L w :=
  fun _ k => st_assign (by rw [k.eval hx]; exact h _ (k.put v hd))
theorem wl_nilCheck {x : Operand} {p : Addr} (hx : ev L x = some (.pointer (some p))) (hd : Nat.blt d N = true) (h : WL rest P ops Q N ((d, .pointer (some p)) :: L) w) :
    WL (⟨some d, .nilCheck x, ty, pos, aft, none⟩ :: rest) P ops Q N L w :=
  fun _ k => st_nilCheck (k.eval hx) (h _ (k.put _ hd))
theorem wl_fieldAddr {x : Operand} {b o s f off : Nat} (hx : ev L x = some (.pointer (some ⟨b, o, none⟩))) (hf : fieldOff P s f = some off) (hd : Nat.blt d N = true) (h : WL rest P ops Q N ((d, .pointer (some ⟨b, o + off, none⟩)) :: L) w) :
    WL (⟨some d, .fieldAddr s x f, ty, pos, aft, none⟩ :: rest) P ops Q N L w :=
  fun _ k => st_fieldAddr (k.eval hx) hf (by rw [add_plain _ _ rfl]; exact h _ (k.put _ hd))
theorem wl_load {x : Operand} {p : Addr} {t : TypeId} {v : Value} (hx : ev L x = some (.pointer (some p))) (ht : tyOne P t = true) (hd : Nat.blt d N = true) (hc : w.cell? p = some v) (h : WL rest P ops Q N ((d, v) :: L) w) :
    WL (⟨some d, .load t x, ty, pos, aft, none⟩ :: rest) P ops Q N L w :=
  fun _ k => st_load (k.eval hx) ht hc (h _ (k.put _ hd))
theorem wl_loadAgg {x : Operand} {b o : Nat} {t : TypeId} {cs : List Value} (hx : ev L x = some (.pointer (some ⟨b, o, none⟩))) (ht : tyAgg P t = some cs.length) (hd : Nat.blt d N = true)
    (hc : ∀ j v, cs[j]? = some v → w.cell? ⟨b, o + j, none⟩ = some v) (h : WL rest P ops Q N ((d, .agg cs.toArray) :: L) w) :
    WL (⟨some d, .load t x, ty, pos, aft, none⟩ :: rest) P ops Q N L w :=
  fun _ k => st_loadAgg (k.eval hx) ht (fun j v e => by rw [add_plain _ _ rfl]; exact hc j v e) (h _ (k.put _ hd))
theorem wl_store {x y : Operand} {p : Addr} {t : TypeId} {v old : Value} (hx : ev L x = some (.pointer (some p))) (hy : ev L y = some v) (ht : tyOne P t = true) (h1 : v.oneCell' = true)
    (hc : w.cell? p = some old) (hf : w.frozen? p = false) (h : WL rest P ops Q N L (w.setCell p v)) :
    WL (⟨none, .store t x y, ty, pos, aft, none⟩ :: rest) P ops Q N L w :=
  fun _ k => st_store (k.eval hx) (k.eval hy) ht h1 hc hf (h _ k)
theorem wl_call {f : FuncId} {args : List Operand} {vs : List Value} {ats : Array TypeId} (ha : evs L args = some vs) (hf : isFn P f = true) (hd : Nat.blt d N = true)
    (hc : Calls P f vs.toArray w fun e w' => ∃ v, e = .returned v ∧ WL rest P ops Q N ((d, v) :: L) w') :
    WL (⟨some d, .call ⟨.value (.func f), args.toArray, ats⟩, ty, pos, aft, none⟩ :: rest) P ops Q N L w := by
  intro a k
  refine st_call hf ?_
  have : (args.toArray.map a.eval) = vs.toArray := by rw [List.map_toArray, k.evals ha]
  rw [this]
  refine hc.mono (fun e w' he => ?_)
  obtain ⟨v, rfl, hv⟩ := he
  exact ⟨v, rfl, hv _ (k.put v hd)⟩
theorem wl_len {x : Operand} {t : TypeId} {b : Option Addr} {n c : Nat} (hx : ev L x = some (.slice b n c)) (ht : (elemSize P t).isSome = true) (hd : Nat.blt d N = true) (h : WL rest P ops Q N ((d, .int .i64 n) :: L) w) :
    WL (⟨some d, .call ⟨.builtin .len, #[x], #[t]⟩, ty, pos, aft, none⟩ :: rest) P ops Q N L w :=
  fun _ k => st_len_slice (k.eval hx) ht (h _ (k.put _ hd))
theorem wl_indexAddr {x y : Operand} {t sz b o : Nat} {n c i : Nat} {kk : IntKind} (hx : ev L x = some (.slice (some ⟨b, o, none⟩) n c)) (hy : ev L y = some (.int kk i)) (ht : elemSize P t = some sz) (hd : Nat.blt d N = true) (hi : i < n)
    (h : WL rest P ops Q N ((d, .pointer (some ⟨b, o + i * sz, none⟩)) :: L) w) : WL (⟨some d, .indexAddr t x y, ty, pos, aft, none⟩ :: rest) P ops Q N L w :=
  fun _ k => st_indexAddr (k.eval hx) (k.eval hy) ht hi (by rw [add_plain _ _ rfl]; exact h _ (k.put _ hd))
theorem wl_lss {x y : Operand} {t u : TypeId} {kk : IntKind} {m n : Int} (hx : ev L x = some (.int kk m)) (hy : ev L y = some (.int kk n)) (hd : Nat.blt d N = true) (h : WL rest P ops Q N ((d, .bool (decide (m < n))) :: L) w) :
    WL (⟨some d, .binOp .lss t x y u, ty, pos, aft, none⟩ :: rest) P ops Q N L w := fun _ k => st_lss (k.eval hx) (k.eval hy) (h _ (k.put _ hd))
theorem wl_leq {x y : Operand} {t u : TypeId} {kk : IntKind} {m n : Int} (hx : ev L x = some (.int kk m)) (hy : ev L y = some (.int kk n)) (hd : Nat.blt d N = true) (h : WL rest P ops Q N ((d, .bool (decide (m ≤ n))) :: L) w) :
    WL (⟨some d, .binOp .leq t x y u, ty, pos, aft, none⟩ :: rest) P ops Q N L w := fun _ k => st_leq (k.eval hx) (k.eval hy) (h _ (k.put _ hd))
theorem wl_gtr {x y : Operand} {t u : TypeId} {kk : IntKind} {m n : Int} (hx : ev L x = some (.int kk m)) (hy : ev L y = some (.int kk n)) (hd : Nat.blt d N = true) (h : WL rest P ops Q N ((d, .bool (decide (n < m))) :: L) w) :
    WL (⟨some d, .binOp .gtr t x y u, ty, pos, aft, none⟩ :: rest) P ops Q N L w := fun _ k => st_gtr (k.eval hx) (k.eval hy) (h _ (k.put _ hd))
theorem wl_geq {x y : Operand} {t u : TypeId} {kk : IntKind} {m n : Int} (hx : ev L x = some (.int kk m)) (hy : ev L y = some (.int kk n)) (hd : Nat.blt d N = true) (h : WL rest P ops Q N ((d, .bool (decide (n ≤ m))) :: L) w) :
    WL (⟨some d, .binOp .geq t x y u, ty, pos, aft, none⟩ :: rest) P ops Q N L w := fun _ k => st_geq (k.eval hx) (k.eval hy) (h _ (k.put _ hd))
theorem wl_eql {x y : Operand} {t u : TypeId} {kk : IntKind} {m n : Int} (hx : ev L x = some (.int kk m)) (hy : ev L y = some (.int kk n)) (hd : Nat.blt d N = true) (h : WL rest P ops Q N ((d, .bool (m == n)) :: L) w) :
    WL (⟨some d, .binOp .eql t x y u, ty, pos, aft, none⟩ :: rest) P ops Q N L w := fun _ k => st_eql (k.eval hx) (k.eval hy) (h _ (k.put _ hd))
/-- A sum, its value given. -/
theorem wl_add {x y : Operand} {t u : TypeId} {kk : IntKind} {m n r : Int} (hx : ev L x = some (.int kk m)) (hy : ev L y = some (.int kk n)) (hd : Nat.blt d N = true) (hr : kk.wrap (m + n) = r) (h : WL rest P ops Q N ((d, .int kk r) :: L) w) :
    WL (⟨some d, .binOp .add t x y u, ty, pos, aft, none⟩ :: rest) P ops Q N L w := fun _ k => st_add (k.eval hx) (k.eval hy) (by rw [hr]; exact h _ (k.put _ hd))
theorem wl_sub' {x y : Operand} {t u : TypeId} {kk : IntKind} {m n r : Int} (hx : ev L x = some (.int kk m)) (hy : ev L y = some (.int kk n)) (hd : Nat.blt d N = true) (hr : kk.wrap (m - n) = r) (h : WL rest P ops Q N ((d, .int kk r) :: L) w) :
    WL (⟨some d, .binOp .sub t x y u, ty, pos, aft, none⟩ :: rest) P ops Q N L w := fun _ k => st_sub (k.eval hx) (k.eval hy) (by rw [hr]; exact h _ (k.put _ hd))
theorem wl_not {x : Operand} {t : TypeId} {b : Bool} (hx : ev L x = some (.bool b)) (hd : Nat.blt d N = true) (h : WL rest P ops Q N ((d, .bool (!b)) :: L) w) :
    WL (⟨some d, .unOp .not t x, ty, pos, aft, none⟩ :: rest) P ops Q N L w := fun _ k => st_not (k.eval hx) (h _ (k.put _ hd))
theorem wl_conv (k' : IntKind) {x : Operand} {s t : TypeId} {kk : IntKind} {n r : Int} (hx : ev L x = some (.int kk n)) (hs : isInt P s kk = true) (ht : isInt P t k' = true) (hd : Nat.blt d N = true) (hr : k'.wrap n = r) (h : WL rest P ops Q N ((d, .int k' r) :: L) w) :
    WL (⟨some d, .convert s t x, ty, pos, aft, none⟩ :: rest) P ops Q N L w := fun _ k => st_convInt (k.eval hx) hs ht (by rw [hr]; exact h _ (k.put _ hd))
theorem wl_sliceNil {x : Operand} {t u : TypeId} {b : Option Addr} {n c : Nat} (hx : ev L x = some (.slice b n c)) (ht : (elemSize P t).isSome = true) (hd : Nat.blt d N = true) (h : WL rest P ops Q N ((d, .bool b.isNone) :: L) w) :
    WL (⟨some d, .binOp .eql t x (.const (.slice none 0 0)) u, ty, pos, aft, none⟩ :: rest) P ops Q N L w := fun _ k => st_sliceNil (k.eval hx) ht (h _ (k.put _ hd))
theorem wl_ptrNil {x : Operand} {t u : TypeId} {b : Option Addr} (hx : ev L x = some (.pointer b)) (ht : (match P.underlying t with | some (.pointer _) => true | _ => false) = true) (hd : Nat.blt d N = true) (h : WL rest P ops Q N ((d, .bool b.isNone) :: L) w) :
    WL (⟨some d, .binOp .eql t x (.const (.pointer none)) u, ty, pos, aft, none⟩ :: rest) P ops Q N L w := fun _ k => st_ptrNil (k.eval hx) ht (h _ (k.put _ hd))
theorem wl_slice0 {x : Operand} {t : TypeId} {b : Option Addr} {n c : Nat} (hx : ev L x = some (.slice b n c)) (ht : (elemSize P t).isSome = true) (hd : Nat.blt d N = true) (h : WL rest P ops Q N ((d, .slice b 0 c) :: L) w) :
    WL (⟨some d, .slice t x none (some (.const (.int .i64 0))) none, ty, pos, aft, none⟩ :: rest) P ops Q N L w := fun _ k => st_slice0 (k.eval hx) ht (h _ (k.put _ hd))
theorem wl_pick {c x y : Operand} {b : Bool} {v : Value} (hc : ev L c = some (.bool b)) (hd : Nat.blt d N = true) (hv : ev L (bif b then x else y) = some v) (h : WL rest P ops Q N ((d, v) :: L) w) :
    WL (⟨some d, .pick c x y, ty, pos, aft, none⟩ :: rest) P ops Q N L w := by
  intro a k
  refine st_pick (k.eval hc) ?_
  have : (if b then a.eval x else a.eval y) = v := by cases b <;> exact k.eval hv
  rw [this]
  exact h _ (k.put _ hd)
theorem yielded_of {a : Act} {j t : Nat} {b : Bool} (k : Kn N a L) (hj : (ops[j]?).bind (·.dst) = some t) (hb : lk L t = some (.bool b)) : yielded ops a.tmps j = some b := by
  have h1 := k.at_ t _ hb
  simp only [gt] at h1
  unfold yielded
  rw [hj]
  simp only [Option.bind_some]
  cases h2 : a.tmps[t]? with
  | none => rw [Array.getD_eq_getD_getElem?, h2] at h1; simp [undef] at h1
  | some v => rw [Array.getD_eq_getD_getElem?, h2] at h1; simp at h1; subst h1; rfl
/-- Under a guard that does not hold. -/
theorem wl_no {o : Op} {j t : Nat} {b want : Bool} (hj : (ops[j]?).bind (·.dst) = some t) (hb : lk L t = some (.bool b)) (hne : (b == want) = false) (hd : Nat.blt d N = true) (h : WL rest P ops Q N ((d, undef) :: L) w) :
    WL (⟨some d, o, ty, pos, aft, some (j, want)⟩ :: rest) P ops Q N L w := fun a k =>
  st_guard (yielded_of k hj hb) (fun e => by subst e; simp at hne) (fun _ => h _ (k.put _ hd))
/-- Under a guard whose own operation was passed by. -/
theorem wl_noU {o : Op} {j t : Nat} {want : Bool} (hj : (ops[j]?).bind (·.dst) = some t) (hb : lk L t = some undef) (hd : Nat.blt d N = true) (h : WL rest P ops Q N ((d, undef) :: L) w) :
    WL (⟨some d, o, ty, pos, aft, some (j, want)⟩ :: rest) P ops Q N L w := by
  intro a k
  have hy : yielded ops a.tmps j = none := by
    have h1 := k.at_ t _ hb
    simp only [gt] at h1
    unfold yielded
    rw [hj]
    simp only [Option.bind_some]
    cases h2 : a.tmps[t]? with
    | none => rfl
    | some v => rw [Array.getD_eq_getD_getElem?, h2] at h1; simp at h1; subst h1; rfl
  have hr := h _ (k.put undef hd)
  unfold wpList
  rw [if_neg (by simp [Region.wanted, hy])]
  exact hr
/-- Under a guard that holds. -/
theorem wl_yes {o : Op} {dd : Option Tmp} {j t : Nat} {b want : Bool} (hj : (ops[j]?).bind (·.dst) = some t) (hb : lk L t = some (.bool b)) (he : (b == want) = true) (h : WL (⟨dd, o, ty, pos, aft, none⟩ :: rest) P ops Q N L w) :
    WL (⟨dd, o, ty, pos, aft, some (j, want)⟩ :: rest) P ops Q N L w := fun a k =>
  st_guard (yielded_of k hj hb) (fun _ => h _ k) (fun e => absurd (by simpa using he) e)
end
end Go.Proofs.Ytaoecdeljfdmeaa
