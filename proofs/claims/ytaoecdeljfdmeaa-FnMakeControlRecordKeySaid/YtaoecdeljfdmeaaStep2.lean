/- More operations: comparisons, sums, conversions, tests against nil, append. Over any program. -/
import Derived.Test.YtaoecdeljfdmeaaStep
namespace Go.Proofs.Ytaoecdeljfdmeaa
open Go Go.RowKit

def isInt (P : Program) (t : TypeId) (k : IntKind) : Bool := match P.underlying t with | some (.int k') => decide (k' = k) | _ => false
theorem isInt_out {P : Program} {t : TypeId} {k : IntKind} (h : isInt P t k = true) : P.underlying t = some (.int k) := by
  unfold isInt at h
  split at h
  · rename_i k' hk; simp at h; subst h; exact hk
  · cases h
section
variable {P : Program} {ops : Array Oper} {Q : Exit → Act → World → Prop} {a : Act} {w : World} {rest : List Oper} {d : Option Tmp} {ty : TypeId} {pos : String} {aft : Array Edge}

theorem st_lss {x y : Operand} {t u : TypeId} {k : IntKind} {m n : Int} (hx : a.eval x = .int k m) (hy : a.eval y = .int k n) (h : wpList P ops Q rest (a.put d (.bool (decide (m < n)))) w) :
    wpList P ops Q (⟨d, .binOp .lss t x y u, ty, pos, aft, none⟩ :: rest) a w :=
  st_of (o := ⟨d, .binOp .lss t x y u, ty, pos, aft, none⟩) rfl (by simp only [execOp, hx, hy]; simp [go_sem]) h
theorem st_leq {x y : Operand} {t u : TypeId} {k : IntKind} {m n : Int} (hx : a.eval x = .int k m) (hy : a.eval y = .int k n) (h : wpList P ops Q rest (a.put d (.bool (decide (m ≤ n)))) w) :
    wpList P ops Q (⟨d, .binOp .leq t x y u, ty, pos, aft, none⟩ :: rest) a w :=
  st_of (o := ⟨d, .binOp .leq t x y u, ty, pos, aft, none⟩) rfl (by simp only [execOp, hx, hy]; simp [go_sem]) h
theorem st_gtr {x y : Operand} {t u : TypeId} {k : IntKind} {m n : Int} (hx : a.eval x = .int k m) (hy : a.eval y = .int k n) (h : wpList P ops Q rest (a.put d (.bool (decide (n < m)))) w) :
    wpList P ops Q (⟨d, .binOp .gtr t x y u, ty, pos, aft, none⟩ :: rest) a w :=
  st_of (o := ⟨d, .binOp .gtr t x y u, ty, pos, aft, none⟩) rfl (by simp only [execOp, hx, hy]; simp [go_sem]) h
theorem st_geq {x y : Operand} {t u : TypeId} {k : IntKind} {m n : Int} (hx : a.eval x = .int k m) (hy : a.eval y = .int k n) (h : wpList P ops Q rest (a.put d (.bool (decide (n ≤ m)))) w) :
    wpList P ops Q (⟨d, .binOp .geq t x y u, ty, pos, aft, none⟩ :: rest) a w :=
  st_of (o := ⟨d, .binOp .geq t x y u, ty, pos, aft, none⟩) rfl (by simp only [execOp, hx, hy]; simp [go_sem]) h
theorem st_add {x y : Operand} {t u : TypeId} {k : IntKind} {m n : Int} (hx : a.eval x = .int k m) (hy : a.eval y = .int k n) (h : wpList P ops Q rest (a.put d (.int k (k.wrap (m + n)))) w) :
    wpList P ops Q (⟨d, .binOp .add t x y u, ty, pos, aft, none⟩ :: rest) a w :=
  st_of (o := ⟨d, .binOp .add t x y u, ty, pos, aft, none⟩) rfl (by simp only [execOp, hx, hy]; simp [go_sem]) h
theorem st_not {x : Operand} {t : TypeId} {b : Bool} (hx : a.eval x = .bool b) (h : wpList P ops Q rest (a.put d (.bool (!b))) w) :
    wpList P ops Q (⟨d, .unOp .not t x, ty, pos, aft, none⟩ :: rest) a w :=
  st_of (o := ⟨d, .unOp .not t x, ty, pos, aft, none⟩) rfl (by simp only [execOp, hx]; simp [go_sem]) h
theorem st_convInt {x : Operand} {s t : TypeId} {k k' : IntKind} {n : Int} (hx : a.eval x = .int k n) (hs : isInt P s k = true) (ht : isInt P t k' = true) (h : wpList P ops Q rest (a.put d (.int k' (k'.wrap n))) w) :
    wpList P ops Q (⟨d, .convert s t x, ty, pos, aft, none⟩ :: rest) a w :=
  st_of (o := ⟨d, .convert s t x, ty, pos, aft, none⟩) rfl (by simp [execOp, hx, convert, run_underlying (isInt_out hs), run_underlying (isInt_out ht), Conv.intToInt]) h
theorem st_eql {x y : Operand} {t u : TypeId} {k : IntKind} {m n : Int} (hx : a.eval x = .int k m) (hy : a.eval y = .int k n) (h : wpList P ops Q rest (a.put d (.bool (m == n))) w) :
    wpList P ops Q (⟨d, .binOp .eql t x y u, ty, pos, aft, none⟩ :: rest) a w :=
  st_of (o := ⟨d, .binOp .eql t x y u, ty, pos, aft, none⟩) rfl (by simp only [execOp, hx, hy]; simp [go_sem, eqGuard]) h
theorem st_sub {x y : Operand} {t u : TypeId} {k : IntKind} {m n : Int} (hx : a.eval x = .int k m) (hy : a.eval y = .int k n) (h : wpList P ops Q rest (a.put d (.int k (k.wrap (m - n)))) w) :
    wpList P ops Q (⟨d, .binOp .sub t x y u, ty, pos, aft, none⟩ :: rest) a w :=
  st_of (o := ⟨d, .binOp .sub t x y u, ty, pos, aft, none⟩) rfl (by simp only [execOp, hx, hy]; simp [go_sem]) h
/-- A slice against nil. -/
theorem st_sliceNil {x : Operand} {t u : TypeId} {b : Option Addr} {n c : Nat} (hx : a.eval x = .slice b n c) (ht : (elemSize P t).isSome = true) (h : wpList P ops Q rest (a.put d (.bool b.isNone)) w) :
    wpList P ops Q (⟨d, .binOp .eql t x (.const (.slice none 0 0)) u, ty, pos, aft, none⟩ :: rest) a w := by
  refine st_of (o := ⟨d, .binOp .eql t x (.const (.slice none 0 0)) u, ty, pos, aft, none⟩) rfl ?_ h
  unfold elemSize at ht
  split at ht
  · rename_i e he
    simp only [execOp, hx, eval_const]
    simp [eqGuard, Lib.run_eql_slice_nil w t e b n c 0 0 he]
  · cases ht
/-- A pointer against nil. -/
theorem st_ptrNil {x : Operand} {t u : TypeId} {b : Option Addr} (hx : a.eval x = .pointer b) (ht : (match P.underlying t with | some (.pointer _) => true | _ => false) = true) (h : wpList P ops Q rest (a.put d (.bool b.isNone)) w) :
    wpList P ops Q (⟨d, .binOp .eql t x (.const (.pointer none)) u, ty, pos, aft, none⟩ :: rest) a w := by
  refine st_of (o := ⟨d, .binOp .eql t x (.const (.pointer none)) u, ty, pos, aft, none⟩) rfl ?_ h
  split at ht
  · rename_i e he
    simp only [execOp, hx, eval_const]
    simp [eqGuard, run_eql_pointer_nil (P := P) w t b (by simp [Program.pointee, he])]
  · cases ht
/-- A piece of an array. -/
theorem st_slice0 {x : Operand} {t : TypeId} {b : Option Addr} {n c : Nat} (hx : a.eval x = .slice b n c) (ht : (elemSize P t).isSome = true) (h : wpList P ops Q rest (a.put d (.slice b 0 c)) w) :
    wpList P ops Q (⟨d, .slice t x none (some (.const (.int .i64 0))) none, ty, pos, aft, none⟩ :: rest) a w := by
  refine st_of (o := ⟨d, .slice t x none (some (.const (.int .i64 0))) none, ty, pos, aft, none⟩) rfl ?_ h
  unfold elemSize at ht
  split at ht
  · rename_i e he
    cases hie : P.info? e with
    | none => simp [hie] at ht
    | some inf => cases b <;> simp [execOp, hx, eval_const, Instr.sliceAt, Instr.slice, run_underlying he, Instr.sliceBounds, Instr.sliceBound, asIntOf, sizeOf, typeInfo, hie, Addr.add]
  · cases ht
theorem st_pick {c x y : Operand} {b : Bool} (hc : a.eval c = .bool b) (h : wpList P ops Q rest (a.put d (if b then a.eval x else a.eval y)) w) :
    wpList P ops Q (⟨d, .pick c x y, ty, pos, aft, none⟩ :: rest) a w :=
  st_of (o := ⟨d, .pick c x y, ty, pos, aft, none⟩) rfl (by simp only [execOp, hc]; cases b <;> simp [asBool]) h
/-- An operation under a guard that does not hold is passed by; under one that holds it is as without. -/
theorem st_guard {o : Op} {j : Nat} {b want : Bool} (hy : yielded ops a.tmps j = some b)
    (hyes : b = want → wpList P ops Q (⟨d, o, ty, pos, aft, none⟩ :: rest) a w) (hno : b ≠ want → wpList P ops Q rest (a.put d undef) w) :
    wpList P ops Q (⟨d, o, ty, pos, aft, some (j, want)⟩ :: rest) a w := by
  unfold wpList
  by_cases e : b = want
  · rw [if_pos (by simp [Region.wanted, hy, e])]
    have := hyes e
    unfold wpList at this
    rw [if_pos (by simp [Region.wanted])] at this
    exact this
  · rw [if_neg (by simp [Region.wanted, hy, e])]
    exact hno e
end
end Go.Proofs.Ytaoecdeljfdmeaa
