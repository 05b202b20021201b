/- More operations: least and greatest, products, shifts by a variable, pieces, struct literals, letters, tests for inequality. Over any program. -/
import Derived.Test.YtaoecdeljfdmeaaMem
import Derived.Laws.Tables
import Derived.Laws.Small
namespace Go.Proofs.Ytaoecdeljfdmeaa
open Go Go.RowKit

def evps (L : Sl) : List (Nat × Operand) → Option (List (Nat × Value))
  | [] => some []
  | p :: r => match ev L p.2 with
    | some v => (match evps L r with | some vs => some ((p.1, v) :: vs) | none => none)
    | none => none
theorem evps_spec {N : Nat} {L : Sl} {a : Act} (k : Kn N a L) : ∀ (ps : List (Nat × Operand)) (vs : List (Nat × Value)), evps L ps = some vs → ps.map (fun p => (p.1, a.eval p.2)) = vs
  | [], vs, e => by simp [evps] at e; subst e; rfl
  | p :: r, vs, e => by
    simp only [evps] at e
    cases hv : ev L p.2 with
    | none => rw [hv] at e; simp at e
    | some v =>
      rw [hv] at e
      cases hr : evps L r with
      | none => rw [hr] at e; simp at e
      | some us => rw [hr] at e; simp at e; subst e; simp [k.eval hv, evps_spec k r us hr]

section
variable {P : Program} {ops : Array Oper} {Q : Exit → Act → World → Prop} {N : Nat} {rest : List Oper} {L : Sl} {w : World} {d : Nat} {ty : TypeId} {pos : String} {aft : Array Edge}

theorem wl_min {x y : Operand} {ts : Array TypeId} {kk k' : IntKind} {m n r : Int} (hx : ev L x = some (.int kk m)) (hy : ev L y = some (.int k' n)) (hd : Nat.blt d N = true) (hr : (if n < m then n else m) = r) (h : WL rest P ops Q N ((d, .int kk r) :: L) w) :
    WL (⟨some d, .call ⟨.builtin .min, #[x, y], ts⟩, ty, pos, aft, none⟩ :: rest) P ops Q N L w := by
  intro a k
  refine st_of (o := ⟨some d, .call ⟨.builtin .min, #[x, y], ts⟩, ty, pos, aft, none⟩) rfl ?_ (h _ (k.put _ hd))
  simp only [execOp, resolve, List.map_toArray, List.map_cons, List.map_nil, k.eval hx, k.eval hy, Sem.run_bind, Sem.run_pure, Result.andThen_ok, invoke, builtin, run_min_int2, hr]
theorem wl_max {x y : Operand} {ts : Array TypeId} {kk k' : IntKind} {m n r : Int} (hx : ev L x = some (.int kk m)) (hy : ev L y = some (.int k' n)) (hd : Nat.blt d N = true) (hr : (if n > m then n else m) = r) (h : WL rest P ops Q N ((d, .int kk r) :: L) w) :
    WL (⟨some d, .call ⟨.builtin .max, #[x, y], ts⟩, ty, pos, aft, none⟩ :: rest) P ops Q N L w := by
  intro a k
  refine st_of (o := ⟨some d, .call ⟨.builtin .max, #[x, y], ts⟩, ty, pos, aft, none⟩) rfl ?_ (h _ (k.put _ hd))
  simp only [execOp, resolve, List.map_toArray, List.map_cons, List.map_nil, k.eval hx, k.eval hy, Sem.run_bind, Sem.run_pure, Result.andThen_ok, invoke, builtin, run_max_int2, hr]
theorem wl_mul {x y : Operand} {t u : TypeId} {kk : IntKind} {m n r : Int} (hx : ev L x = some (.int kk m)) (hy : ev L y = some (.int kk n)) (hd : Nat.blt d N = true) (hr : kk.wrap (m * n) = r) (h : WL rest P ops Q N ((d, .int kk r) :: L) w) :
    WL (⟨some d, .binOp .mul t x y u, ty, pos, aft, none⟩ :: rest) P ops Q N L w := by
  intro a k
  refine st_of (o := ⟨some d, .binOp .mul t x y u, ty, pos, aft, none⟩) rfl ?_ (h _ (k.put _ hd))
  simp only [execOp, k.eval hx, k.eval hy]
  simp [go_sem, hr]
theorem wl_rem {x y : Operand} {t u : TypeId} {kk : IntKind} {m n r : Int} (hx : ev L x = some (.int kk m)) (hy : ev L y = some (.int kk n)) (hd : Nat.blt d N = true) (hn : 0 < n) (hm : 0 ≤ m) (hw : m % n = r) (h : WL rest P ops Q N ((d, .int kk r) :: L) w) :
    WL (⟨some d, .binOp .rem t x y u, ty, pos, aft, none⟩ :: rest) P ops Q N L w := by
  intro a k
  refine st_of (o := ⟨some d, .binOp .rem t x y u, ty, pos, aft, none⟩) rfl ?_ (h _ (k.put _ hd))
  simp only [execOp, k.eval hx, k.eval hy]
  have h1 : ¬ n = 0 := by omega
  simp [eqGuard, binOp, Op.intDiv, h1, Int.tmod_eq_emod_of_nonneg hm, hw]
theorem wl_shrV {x y : Operand} {t u : TypeId} {kk yk : IntKind} {m s r : Int} (hx : ev L x = some (.int kk m)) (hy : ev L y = some (.int yk s)) (hd : Nat.blt d N = true) (hs : 0 ≤ s) (hr : m.fdiv (2 ^ (min s.toNat kk.bits)) = r) (h : WL rest P ops Q N ((d, .int kk r) :: L) w) :
    WL (⟨some d, .binOp .shr t x y u, ty, pos, aft, none⟩ :: rest) P ops Q N L w := by
  intro a k
  have hs' : ¬ s < 0 := by omega
  refine st_of (o := ⟨some d, .binOp .shr t x y u, ty, pos, aft, none⟩) rfl ?_ (h _ (k.put _ hd))
  simp only [execOp, k.eval hx, k.eval hy]
  simp [eqGuard, binOp, Op.shift, hs', hr]
theorem wl_neq {x y : Operand} {t u : TypeId} {kk : IntKind} {m n : Int} (hx : ev L x = some (.int kk m)) (hy : ev L y = some (.int kk n)) (hd : Nat.blt d N = true) (h : WL rest P ops Q N ((d, .bool (m != n)) :: L) w) :
    WL (⟨some d, .binOp .neq t x y u, ty, pos, aft, none⟩ :: rest) P ops Q N L w := by
  intro a k
  refine st_of (o := ⟨some d, .binOp .neq t x y u, ty, pos, aft, none⟩) rfl ?_ (h _ (k.put _ hd))
  simp only [execOp, k.eval hx, k.eval hy]
  simp [eqGuard, binOp, Op.intCmp]
/-- x[:n]. -/
theorem wl_sliceHi {x y : Operand} {t : TypeId} {b : Option Addr} {n c m : Nat} {kk : IntKind} (hx : ev L x = some (.slice b n c)) (hy : ev L y = some (.int kk (m : Int))) (ht : (elemSize P t).isSome = true) (hd : Nat.blt d N = true) (hm : m ≤ c)
    (h : WL rest P ops Q N ((d, .slice b m c) :: L) w) : WL (⟨some d, .slice t x none (some y) none, ty, pos, aft, none⟩ :: rest) P ops Q N L w := by
  intro a k
  refine st_of (o := ⟨some d, .slice t x none (some y) none, ty, pos, aft, none⟩) (v := .slice b m c) rfl ?_ (h _ (k.put _ hd))
  unfold elemSize at ht
  split at ht
  · rename_i e he
    cases hie : P.info? e with
    | none => simp [hie] at ht
    | some inf =>
      simp only [execOp, k.eval hx, Option.map_some, Option.map_none, k.eval hy]
      cases b <;> simp [Instr.sliceAt, Instr.slice, run_underlying he, Instr.sliceBounds, Instr.sliceBound, asIntOf, sizeOf, typeInfo, hie, Addr.add, hm]
  · cases ht
/-- A struct's literal. -/
theorem wl_build {t : TypeId} {ps : List (Nat × Operand)} {vs : List (Nat × Value)} {cs : List Value} (hps : evps L ps = some vs) (hb : P.built t vs = some cs.toArray) (hd : Nat.blt d N = true) (h : WL rest P ops Q N ((d, .agg cs.toArray) :: L) w) :
    WL (⟨some d, .build t ps.toArray, ty, pos, aft, none⟩ :: rest) P ops Q N L w := by
  intro a k
  refine st_of (o := ⟨some d, .build t ps.toArray, ty, pos, aft, none⟩) rfl ?_ (h _ (k.put _ hd))
  have e := evps_spec k ps vs hps
  have : (ps.toArray.map fun x => (x.1, a.eval x.2)).toList = vs := by simpa using e
  have hr := run_build (P := P) w t (ps.toArray.map fun x => (x.1, a.eval x.2)) cs.toArray (by rw [this]; exact hb)
  simp only [execOp, Sem.run_bind, hr, Result.andThen_ok, Sem.run_pure]
end
end Go.Proofs.Ytaoecdeljfdmeaa
