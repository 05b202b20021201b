/- For statements whose order is open: what single operations come to, as equations. Over any program. -/
import Derived.Test.YtaoecdeljfdmeaaDraw
import Derived.Test.YtaoecdeljfdmeaaStep3
import Derived.Test.YtaoecdeljfdmeaaBytes2
namespace Go.Proofs.Ytaoecdeljfdmeaa
open Go Go.RowKit

section
variable {P : Program} {a : Act} {w : World} {N : Nat} {L : Sl} {d : Option Tmp} {ty : TypeId} {pos : String} {aft : Array Edge} {g : Option (Nat × Bool)}

theorem rn_move {x : Operand} {v : Value} (k : Kn N a L) (hx : ev L x = some v) : (execOp a.eval ⟨d, .move x, ty, pos, aft, g⟩).run P w = .ok (.value v) w := by simp [execOp, k.eval hx]
theorem rn_assign {x : Operand} {v : Value} (k : Kn N a L) (hx : ev L x = some v) : (execOp a.eval ⟨d, .assign x, ty, pos, aft, g⟩).run P w = .ok (.value v) w := by simp [execOp, k.eval hx]
theorem rn_nilCheck {x : Operand} {p : Addr} (k : Kn N a L) (hx : ev L x = some (.pointer (some p))) : (execOp a.eval ⟨d, .nilCheck x, ty, pos, aft, g⟩).run P w = .ok (.value (.pointer (some p))) w := by simp [execOp, k.eval hx]
theorem rn_fieldAddr {x : Operand} {b o s f off : Nat} (k : Kn N a L) (hx : ev L x = some (.pointer (some ⟨b, o, none⟩))) (hf : fieldOff P s f = some off) :
    (execOp a.eval ⟨d, .fieldAddr s x f, ty, pos, aft, g⟩).run P w = .ok (.value (.pointer (some ⟨b, o + off, none⟩))) w := by
  unfold fieldOff at hf
  split at hf
  · rename_i fs hs
    split at hf
    · rename_i fd hfd
      split at hf
      · rename_i i hi
        split at hf
        · cases hf
        · rename_i hne
          cases hf
          simp [execOp, k.eval hx, Instr.fieldAt, run_underlying hs, hfd, Instr.sureAddr, fieldPlace, sizeOf, typeInfo, hi, hne, add_plain]
      · cases hf
    · cases hf
  · cases hf
theorem rn_load {x : Operand} {p : Addr} {t : TypeId} {v : Value} (k : Kn N a L) (hx : ev L x = some (.pointer (some p))) (ht : tyOne P t = true) (hc : w.cell? p = some v) : (execOp a.eval ⟨d, .load t x, ty, pos, aft, g⟩).run P w = .ok (.value v) w := by
  simp [execOp, k.eval hx, Instr.loadAt, Instr.sureAddr, loadVar, run_isAgg_one ht, hc]
theorem rn_loadAgg {x : Operand} {b o : Nat} {t : TypeId} {cs : List Value} (k : Kn N a L) (hx : ev L x = some (.pointer (some ⟨b, o, none⟩))) (ht : tyAgg P t = some cs.length) (hc : ∀ j v, cs[j]? = some v → w.cell? ⟨b, o + j, none⟩ = some v) :
    (execOp a.eval ⟨d, .load t x, ty, pos, aft, g⟩).run P w = .ok (.value (.agg cs.toArray)) w := by
  have hl := run_loadCells_list (P := P) w ⟨b, o, none⟩ cs (fun j v e => by rw [add_plain _ _ rfl]; exact hc j v e)
  unfold tyAgg at ht
  split at ht
  · rename_i u hu
    cases hi : P.info? t with
    | none => simp [hi] at ht
    | some i => simp [hi] at ht; simp [execOp, k.eval hx, Instr.loadAt, Instr.sureAddr, loadVar, isAgg, run_underlying hu, sizeOf, typeInfo, hi, ht, hl]
  · rename_i u hu
    cases hi : P.info? t with
    | none => simp [hi] at ht
    | some i => simp [hi] at ht; simp [execOp, k.eval hx, Instr.loadAt, Instr.sureAddr, loadVar, isAgg, run_underlying hu, sizeOf, typeInfo, hi, ht, hl]
  · cases ht
theorem rn_loadBAgg {x : Operand} {b : Nat} {t e : TypeId} {cs : List Value} (k : Kn N a L) (hx : ev L x = some (.pointer (some ⟨b, 0, none⟩))) (ht : tyAgg P t = some cs.length) (hB : Box w b cs e) :
    (execOp a.eval ⟨d, .load t x, ty, pos, aft, g⟩).run P w = .ok (.value (.agg cs.toArray)) w := rn_loadAgg k hx ht (fun j v e => by rw [Nat.zero_add]; exact hB.cell e)
theorem rn_len {x : Operand} {t : TypeId} {b : Option Addr} {n c : Nat} (k : Kn N a L) (hx : ev L x = some (.slice b n c)) (ht : (elemSize P t).isSome = true) :
    (execOp a.eval ⟨d, .call ⟨.builtin .len, #[x], #[t]⟩, ty, pos, aft, g⟩).run P w = .ok (.value (.int .i64 n)) w := by
  unfold elemSize at ht
  split at ht
  · rename_i e he
    simp [execOp, resolve, invoke, builtin, Builtin.len_, run_underlying he, k.eval hx, goInt]
  · cases ht
theorem rn_indexAddr {x y : Operand} {t sz b o : Nat} {n c i : Nat} {kk : IntKind} (k : Kn N a L) (hx : ev L x = some (.slice (some ⟨b, o, none⟩) n c)) (hy : ev L y = some (.int kk i)) (ht : elemSize P t = some sz) (hi : i < n) :
    (execOp a.eval ⟨d, .indexAddr t x y, ty, pos, aft, g⟩).run P w = .ok (.value (.pointer (some ⟨b, o + i * sz, none⟩))) w := by
  unfold elemSize at ht
  split at ht
  · rename_i e he
    cases hie : P.info? e with
    | none => simp [hie] at ht
    | some inf =>
      simp [hie] at ht
      simp [execOp, Instr.indexAt, k.eval hx, k.eval hy, asIntOf, run_underlying he, sizeOf, typeInfo, hie, ht, hi, add_plain]
  · cases ht
theorem rn_lss {x y : Operand} {t u : TypeId} {kk : IntKind} {m n : Int} (k : Kn N a L) (hx : ev L x = some (.int kk m)) (hy : ev L y = some (.int kk n)) : (execOp a.eval ⟨d, .binOp .lss t x y u, ty, pos, aft, g⟩).run P w = .ok (.value (.bool (decide (m < n)))) w := by
  simp only [execOp, k.eval hx, k.eval hy]; simp [go_sem]
theorem rn_eql {x y : Operand} {t u : TypeId} {kk : IntKind} {m n : Int} (k : Kn N a L) (hx : ev L x = some (.int kk m)) (hy : ev L y = some (.int kk n)) : (execOp a.eval ⟨d, .binOp .eql t x y u, ty, pos, aft, g⟩).run P w = .ok (.value (.bool (m == n))) w := by
  simp only [execOp, k.eval hx, k.eval hy]; simp [go_sem, eqGuard]
theorem rn_neq {x y : Operand} {t u : TypeId} {kk : IntKind} {m n : Int} (k : Kn N a L) (hx : ev L x = some (.int kk m)) (hy : ev L y = some (.int kk n)) : (execOp a.eval ⟨d, .binOp .neq t x y u, ty, pos, aft, g⟩).run P w = .ok (.value (.bool (m != n))) w := by
  simp only [execOp, k.eval hx, k.eval hy]; simp [eqGuard, binOp, Op.intCmp]
theorem rn_not {x : Operand} {t : TypeId} {b : Bool} (k : Kn N a L) (hx : ev L x = some (.bool b)) : (execOp a.eval ⟨d, .unOp .not t x, ty, pos, aft, g⟩).run P w = .ok (.value (.bool (!b))) w := by
  simp only [execOp, k.eval hx]; simp [go_sem]
theorem rn_pick {c x y : Operand} {b : Bool} {v : Value} (k : Kn N a L) (hc : ev L c = some (.bool b)) (hv : ev L (bif b then x else y) = some v) : (execOp a.eval ⟨d, .pick c x y, ty, pos, aft, g⟩).run P w = .ok (.value v) w := by
  simp only [execOp, k.eval hc]
  cases b
  · have := k.eval (x := y) hv; simp [asBool, this]
  · have := k.eval (x := x) hv; simp [asBool, this]

theorem gv {ops : List Oper} {i : Nat} {v : Value} {o : Oper} (ho : ops[i]? = some o) (hg : o.guard = none) (hr : (execOp a.eval o).run P w = .ok (.value v) w) : Gives P ops i v a w := by
  unfold Gives
  rw [ho]
  exact .inl ⟨by simp [Region.wanted, hg], hr⟩
theorem gv_yes {ops : List Oper} {i j t : Nat} {v : Value} {o : Oper} {b want : Bool} (ho : ops[i]? = some o) (hg : o.guard = some (j, want)) (hj : dstOf ops j = some t) (k : Kn N a L) (hb : lk L t = some (.bool b)) (he : (b == want) = true)
    (hr : (execOp a.eval o).run P w = .ok (.value v) w) : Gives P ops i v a w := by
  unfold Gives
  rw [ho]
  have hy : yielded ops.toArray a.tmps j = some b := yielded_of k (by simpa [dstOf] using hj) hb
  exact .inl ⟨by simp at he; simp [Region.wanted, hg, hy, he], hr⟩
theorem gv_no {ops : List Oper} {i j t : Nat} {o : Oper} {b want : Bool} (ho : ops[i]? = some o) (hg : o.guard = some (j, want)) (hj : dstOf ops j = some t) (k : Kn N a L) (hb : lk L t = some (.bool b)) (he : (b == want) = false) : Gives P ops i undef a w := by
  unfold Gives
  rw [ho]
  have hy : yielded ops.toArray a.tmps j = some b := yielded_of k (by simpa [dstOf] using hj) hb
  exact .inr ⟨by simp at he; simp [Region.wanted, hg, hy, he], rfl⟩

theorem does_call {f : FuncId} {args : List Operand} {vs : List Value} {ats : Array TypeId} {R : Value → World → Prop} (k : Kn N a L) (ha : evs L args = some vs) (hf : isFn P f = true) (hc : Calls P f vs.toArray w fun e w' => ∃ v, e = .returned v ∧ R v w') :
    Does P ⟨d, .call ⟨.value (.func f), args.toArray, ats⟩, ty, pos, aft, g⟩ a w R := by
  intro K Q hK
  unfold Oper.wp
  have hr : (execOp a.eval ⟨d, .call ⟨.value (.func f), args.toArray, ats⟩, ty, pos, aft, g⟩).run P w = .ok (.enter f vs.toArray) w := by
    unfold isFn at hf
    cases hfn : P.funcs[f]? with
    | none => simp [hfn] at hf
    | some fn =>
      simp [hfn] at hf
      have h2 : fn.body ≠ none := by intro e; simp [e] at hf
      have h3 := k.evals ha
      simp [execOp, resolve, Deferred.ofValue, Act.eval, invoke, callFunc, hfn, hf.1, h2]
      exact h3
  rw [hr]
  refine hc.mono (fun e w' he => ?_)
  obtain ⟨v, rfl, hv⟩ := he
  exact hK _ _ hv
theorem does_assign {x : Operand} {v : Value} {R : Value → World → Prop} (k : Kn N a L) (hx : ev L x = some v) (h : R v w) : Does P ⟨d, .assign x, ty, pos, aft, g⟩ a w R := does_of (rn_assign k hx) h
theorem does_appSl {t u u8 B : Nat} {s x : Operand} {dv xv : Value} {xs ys : List UInt8} {R : Value → World → Prop} (k : Kn N a L)
    (hT : byteSl P t u8 = true) (hu : byteSl P u u8 = true) (hs : ev L s = some dv) (hx : ev L x = some xv) (hy : BytesAt w xv ys)
    (hown : Own w B u8 dv xs) (hB : B ≤ w.heap.size) (hlim : xs.length + ys.length ≤ lim) (h : ∀ d' w', Own w' B u8 d' (xs ++ ys) → Grew w w' dv d' → R d' w') :
    Does P ⟨d, .call ⟨.builtin .append, #[s, x], #[t, u]⟩, ty, pos, aft, g⟩ a w R := by
  obtain ⟨hu', _⟩ := byteSl_out hu
  obtain ⟨hu1, i, z, hi, hs1, hb1, hz, hzc⟩ := byteSl_out hT
  have hlen : ∀ w' : World, (Builtin.lenOf xv).run P w' = .ok ys.length w' := by
    intro w'
    rcases hy with ⟨a0, c, rfl, rfl⟩ | ⟨b, off, c, rfl, hc⟩ <;> simp [Builtin.lenOf]
  have hfc : ∀ w', (w' = w ∨ w' = w.drew) → (Builtin.firstCells 1 ys.length xv).run P w' = .ok (bv ys).toArray w' := by
    intro w' hw'
    rcases hy with ⟨a0, c, rfl, rfl⟩ | ⟨b, off, c, rfl, hc⟩
    · cases a0 with
      | none => simp [Builtin.firstCells, bv]
      | some a0 => simpa [Builtin.firstCells, bv] using run_loadCells_list (P := P) w' a0 [] (by simp)
    · refine run_firstCells_some (P := P) w' 1 ys.length _ _ _ (bv ys) (by rw [bv_length, Nat.mul_one]) (fun j v hv => ?_)
      have h1 := hc.cell hv
      rw [add_plain _ _ rfl]
      rcases hw' with rfl | rfl
      · exact h1
      · exact h1
  obtain ⟨d', w', hr, ho, hgr⟩ := run_app (P := P) w B t u ty u8 i z _ hu1 hu' (.inl ⟨_, rfl⟩) hi hz (by rw [hzc, hs1]) dv xs.length (bv xs) (by rw [hs1]; exact hown)
    xv ys.length (bv ys) (by rw [bv_length, hs1, Nat.mul_one]) (bv_one ys) hlen (by rw [hs1]; exact hfc) (by rw [hb1]; simpa using hlim) (by simp only [maxLen, lim] at *; omega) hB
  refine does_of (v := d') (w' := w') ?_ (h d' w' ?_ hgr)
  · simp only [execOp, resolve, List.map_toArray, List.map_cons, List.map_nil, k.eval hs, k.eval hx, Sem.run_bind, Sem.run_pure, Result.andThen_ok, invoke, builtin, hr]
  · rw [hs1] at ho
    unfold Own
    rw [List.length_append, bv_append]; exact ho
end
end Go.Proofs.Ytaoecdeljfdmeaa
