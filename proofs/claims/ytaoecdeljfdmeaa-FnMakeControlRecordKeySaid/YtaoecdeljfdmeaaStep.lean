/- One operation of the program's code at a time: what it puts into its slot and what it does to the world. Over any program. -/
import Derived.Test.YtaoecdeljfdmeaaBase
namespace Go.Proofs.Ytaoecdeljfdmeaa
open Go Go.RowKit

/-- A type whose values take one cell. -/
def tyOne (P : Program) (t : TypeId) : Bool :=
  (match P.underlying t with | some (.struct _) => false | some (.array _ _) => false | some _ => true | none => false) &&
  (match P.info? t with | some i => i.size == 1 | none => false)
/-- A struct's or array's size. -/
def tyAgg (P : Program) (t : TypeId) : Option Nat :=
  match P.underlying t with
  | some (.struct _) | some (.array _ _) => (P.info? t).map (·.size)
  | _ => none
/-- Where a field lies. -/
def fieldOff (P : Program) (s : TypeId) (f : Nat) : Option Nat :=
  match P.underlying s with
  | some (.struct fs) =>
    match fs[f]? with
    | some fd => (match P.info? fd.type with | some i => if i.size = 0 then none else some fd.offset | none => none)
    | none => none
  | _ => none
/-- A slice's element's size in cells. -/
def elemSize (P : Program) (t : TypeId) : Option Nat :=
  match P.underlying t with
  | some (.slice e) => (P.info? e).map (·.size)
  | _ => none
def isFn (P : Program) (f : FuncId) : Bool :=
  match P.funcs[f]? with
  | some fn => fn.name != "runtime.NumGoroutine" && fn.body.isSome
  | none => false

section
variable {P : Program} {ops : Array Oper} {Q : Exit → Act → World → Prop} {a : Act} {w : World} {rest : List Oper} {d : Option Tmp} {ty : TypeId} {pos : String} {aft : Array Edge}

theorem st_of {o : Oper} {v : Value} {w' : World} (hg : o.guard = none) (hr : (execOp a.eval o).run P w = .ok (.value v) w') (h : wpList P ops Q rest (a.put o.dst v) w') : wpList P ops Q (o :: rest) a w := by
  refine wpList_plain hg (fun K hK => ?_)
  unfold Oper.wp
  rw [hr]
  exact hK _ _ h
theorem st_of_skip {o : Oper} {w' : World} (hg : o.guard = none) (hr : (execOp a.eval o).run P w = .ok .skip w') (h : wpList P ops Q rest (a.put o.dst undef) w') : wpList P ops Q (o :: rest) a w := by
  refine wpList_plain hg (fun K hK => ?_)
  unfold Oper.wp
  rw [hr]
  exact hK _ _ h

theorem st_move {x : Operand} (h : wpList P ops Q rest (a.put d (a.eval x)) w) : wpList P ops Q (⟨d, .move x, ty, pos, aft, none⟩ :: rest) a w :=
  st_of (o := ⟨d, .move x, ty, pos, aft, none⟩) rfl (by simp [execOp]) h
theorem st_assign {x : Operand} (h : wpList P ops Q rest (a.put d (a.eval x)) w) : wpList P ops Q (⟨d, .assign x, ty, pos, aft, none⟩ :: rest) a w :=
  st_of (o := ⟨d, .assign x, ty, pos, aft, none⟩) rfl (by simp [execOp]) h
theorem st_nilCheck {x : Operand} {p : Addr} (hx : a.eval x = .pointer (some p)) (h : wpList P ops Q rest (a.put d (.pointer (some p))) w) :
    wpList P ops Q (⟨d, .nilCheck x, ty, pos, aft, none⟩ :: rest) a w :=
  st_of (o := ⟨d, .nilCheck x, ty, pos, aft, none⟩) rfl (by simp [execOp, hx]) h
theorem add_plain (p : Addr) (n : Nat) (h : p.spot = none) : p.add n = ⟨p.block, p.off + n, none⟩ := by
  unfold Addr.add
  split
  · rename_i e; subst e; cases p; simp_all
  · cases p; simp_all
theorem st_fieldAddr {x : Operand} {p : Addr} {s f off : Nat} (hx : a.eval x = .pointer (some p)) (hf : fieldOff P s f = some off) (h : wpList P ops Q rest (a.put d (.pointer (some (p.add off)))) w) :
    wpList P ops Q (⟨d, .fieldAddr s x f, ty, pos, aft, none⟩ :: rest) a w := by
  refine st_of (o := ⟨d, .fieldAddr s x f, ty, pos, aft, none⟩) rfl ?_ h
  unfold fieldOff at hf
  split at hf
  · rename_i fs hs
    split at hf
    · rename_i fd hfd
      split at hf
      · rename_i i hi
        split at hf
        · cases hf
        · rename_i hne
          cases hf
          simp [execOp, hx, Instr.fieldAt, run_underlying hs, hfd, Instr.sureAddr, fieldPlace, sizeOf, typeInfo, hi, hne]
      · cases hf
    · cases hf
  · cases hf
theorem run_isAgg_one {t : TypeId} (ht : tyOne P t = true) : (isAgg t).run P w = .ok false w := by
  unfold tyOne at ht
  simp only [Bool.and_eq_true] at ht
  obtain ⟨h1, _⟩ := ht
  cases hu : P.underlying t with
  | none => simp [hu] at h1
  | some u => cases u <;> simp_all [isAgg, run_underlying hu]
theorem run_sizeOf_one {t : TypeId} (ht : tyOne P t = true) : (sizeOf t).run P w = .ok 1 w := by
  unfold tyOne at ht
  simp only [Bool.and_eq_true] at ht
  obtain ⟨_, h1⟩ := ht
  cases hi : P.info? t with
  | none => simp [hi] at h1
  | some i => simp [hi] at h1; simp [sizeOf, typeInfo, hi, h1]
theorem st_load {x : Operand} {p : Addr} {t : TypeId} {v : Value} (hx : a.eval x = .pointer (some p)) (ht : tyOne P t = true) (hc : w.cell? p = some v) (h : wpList P ops Q rest (a.put d v) w) :
    wpList P ops Q (⟨d, .load t x, ty, pos, aft, none⟩ :: rest) a w :=
  st_of (o := ⟨d, .load t x, ty, pos, aft, none⟩) rfl (by simp [execOp, hx, Instr.loadAt, Instr.sureAddr, loadVar, run_isAgg_one ht, hc]) h
theorem st_store {x y : Operand} {p : Addr} {t : TypeId} {v old : Value} (hx : a.eval x = .pointer (some p)) (hy : a.eval y = v) (ht : tyOne P t = true) (h1 : v.oneCell' = true)
    (hc : w.cell? p = some old) (hf : w.frozen? p = false) (h : wpList P ops Q rest (a.put d undef) (w.setCell p v)) :
    wpList P ops Q (⟨d, .store t x y, ty, pos, aft, none⟩ :: rest) a w := by
  refine st_of_skip (o := ⟨d, .store t x y, ty, pos, aft, none⟩) rfl ?_ h
  have hcs : v.cells = #[v] := by cases v <;> simp_all [Value.cells, Value.oneCell']
  have hst := run_store P w p v .plain h1
  rw [hc] at hst
  simp only [hf, Bool.false_eq_true, if_false] at hst
  have ha0 : p.add 0 = p := by simp [Addr.add]
  simp [execOp, hx, hy, Instr.storeAt, Instr.sureAddr, storeVar, hcs, run_sizeOf_one ht, storeCells, ha0, hst]
/-- A whole struct or array read out of memory. -/
theorem st_loadAgg {x : Operand} {p : Addr} {t : TypeId} {cs : List Value} (hx : a.eval x = .pointer (some p)) (ht : tyAgg P t = some cs.length) (hc : ∀ j v, cs[j]? = some v → w.cell? (p.add j) = some v)
    (h : wpList P ops Q rest (a.put d (.agg cs.toArray)) w) : wpList P ops Q (⟨d, .load t x, ty, pos, aft, none⟩ :: rest) a w := by
  refine st_of (o := ⟨d, .load t x, ty, pos, aft, none⟩) rfl ?_ h
  have hl := run_loadCells_list (P := P) w p cs hc
  unfold tyAgg at ht
  split at ht
  · rename_i u hu
    cases hi : P.info? t with
    | none => simp [hi] at ht
    | some i => simp [hi] at ht; simp [execOp, hx, Instr.loadAt, Instr.sureAddr, loadVar, isAgg, run_underlying hu, sizeOf, typeInfo, hi, ht, hl]
  · rename_i u hu
    cases hi : P.info? t with
    | none => simp [hi] at ht
    | some i => simp [hi] at ht; simp [execOp, hx, Instr.loadAt, Instr.sureAddr, loadVar, isAgg, run_underlying hu, sizeOf, typeInfo, hi, ht, hl]
  · cases ht
theorem st_call {f : FuncId} {args : Array Operand} {ats : Array TypeId} (hf : isFn P f = true)
    (hc : Calls P f (args.map a.eval) w fun e w' => ∃ v, e = .returned v ∧ wpList P ops Q rest (a.put d v) w') :
    wpList P ops Q (⟨d, .call ⟨.value (.func f), args, ats⟩, ty, pos, aft, none⟩ :: rest) a w := by
  refine wpList_plain rfl (fun K hK => ?_)
  unfold Oper.wp
  have hr : (execOp a.eval ⟨d, .call ⟨.value (.func f), args, ats⟩, ty, pos, aft, none⟩).run P w = .ok (.enter f (args.map a.eval)) w := by
    unfold isFn at hf
    cases hfn : P.funcs[f]? with
    | none => simp [hfn] at hf
    | some fn =>
      simp [hfn] at hf
      have h2 : fn.body ≠ none := by intro e; simp [e] at hf
      simp [execOp, resolve, Deferred.ofValue, Act.eval, invoke, callFunc, hfn, hf.1, h2]
  rw [hr]
  refine hc.mono (fun e w' he => ?_)
  obtain ⟨v, rfl, hv⟩ := he
  exact hK _ _ hv
theorem st_len_slice {x : Operand} {t : TypeId} {b : Option Addr} {n c : Nat} (hx : a.eval x = .slice b n c) (ht : (elemSize P t).isSome = true) (h : wpList P ops Q rest (a.put d (.int .i64 n)) w) :
    wpList P ops Q (⟨d, .call ⟨.builtin .len, #[x], #[t]⟩, ty, pos, aft, none⟩ :: rest) a w := by
  refine st_of (o := ⟨d, .call ⟨.builtin .len, #[x], #[t]⟩, ty, pos, aft, none⟩) rfl ?_ h
  unfold elemSize at ht
  split at ht
  · rename_i e he
    simp [execOp, resolve, invoke, builtin, Builtin.len_, run_underlying he, hx, goInt]
  · cases ht
theorem st_indexAddr {x y : Operand} {t sz : TypeId} {p : Addr} {n c i : Nat} {k : IntKind} (hx : a.eval x = .slice (some p) n c) (hy : a.eval y = .int k i) (ht : elemSize P t = some sz) (hi : i < n)
    (h : wpList P ops Q rest (a.put d (.pointer (some (p.add (i * sz))))) w) : wpList P ops Q (⟨d, .indexAddr t x y, ty, pos, aft, none⟩ :: rest) a w := by
  refine st_of (o := ⟨d, .indexAddr t x y, ty, pos, aft, none⟩) rfl ?_ h
  unfold elemSize at ht
  split at ht
  · rename_i e he
    cases hie : P.info? e with
    | none => simp [hie] at ht
    | some inf =>
      simp [hie] at ht
      simp [execOp, Instr.indexAt, hx, hy, asIntOf, run_underlying he, sizeOf, typeInfo, hie, ht, hi]
  · cases ht
end
end Go.Proofs.Ytaoecdeljfdmeaa
