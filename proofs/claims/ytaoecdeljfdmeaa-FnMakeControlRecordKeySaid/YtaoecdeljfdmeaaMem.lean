/- Blocks of the call's own whose whole content is known: how they are laid, read, written, kept. Over any program. -/
import Derived.Test.YtaoecdeljfdmeaaDraw
import Derived.Test.YtaoecdeljfdmeaaBits
namespace Go.Proofs.Ytaoecdeljfdmeaa
open Go Go.RowKit

/-- The block b holds just the cells cs. -/
def Box (w : World) (b : Nat) (cs : List Value) (e : TypeId) : Prop := w.heap[b]? = some (.cells cs.toArray e (0, 0))
theorem Box.lt {w : World} {b : Nat} {cs : List Value} {e : TypeId} (h : Box w b cs e) : b < w.heap.size := (Array.getElem?_eq_some_iff.1 h).1
theorem Box.cell {w : World} {b : Nat} {cs : List Value} {e : TypeId} (h : Box w b cs e) {i : Nat} {v : Value} (hi : cs[i]? = some v) : w.cell? ⟨b, i, none⟩ = some v := by
  simp only [World.cell?]
  rw [h]
  simpa using hi
theorem Box.cell0 {w : World} {b : Nat} {cs : List Value} {e : TypeId} (h : Box w b cs e) {i : Nat} {v : Value} (hi : cs[i]? = some v) : w.cell? ⟨b, 0 + i, none⟩ = some v := by rw [Nat.zero_add]; exact h.cell hi
theorem Box.frozen {w : World} {b : Nat} {cs : List Value} {e : TypeId} (h : Box w b cs e) (i : Nat) : w.frozen? ⟨b, i, none⟩ = false := by
  simp only [World.frozen?]
  rw [h]
  simp
theorem Box.kept {w w' : World} {b : Nat} {cs : List Value} {e : TypeId} {row : Option Nat} (h : Box w b cs e) (hg : w.grownBy w' row) (hne : some b ≠ row) : Box w' b cs e := (hg.block b h.lt hne).trans h
theorem Box.below {w w' : World} {b B : Nat} {cs : List Value} {e : TypeId} (h : Box w b cs e) (hg : Below B w w') (hlt : b < B) : Box w' b cs e := (hg.block b hlt).trans h
theorem Box.cells {w : World} {b : Nat} {cs : List Value} {e : TypeId} (h : Box w b cs e) : CellsAt w b 0 cs :=
  ⟨cs.toArray, e, (0, 0), h, by simp, fun i v hv => by simpa using hv⟩
theorem grown_alloc (w : World) (o : Obj) : w.grownBy (w.alloc o) none := World.grownBy_alloc w o none
theorem box_alloc (w : World) (cs : List Value) (e : TypeId) : Box (w.alloc (.cells cs.toArray e)) w.heap.size cs e := heap_alloc_new w _
theorem below_of {B : Nat} {w w' : World} {row : Option Nat} (hg : w.grownBy w' row) (hB : B ≤ w.heap.size) (hr : ∀ k, row = some k → B ≤ k) : Below B w w' := (Below.refl B w).grown hg hB hr
theorem grown_of {w w' : World} (h : Below w.heap.size w w') : w.grownBy w' none := ⟨h.os, h.tape, h.output, h.size, fun k hk _ => h.block k hk⟩
theorem grown_drew (w : World) (row : Option Nat) : w.grownBy w.drew row := ⟨rfl, rfl, rfl, Nat.le_refl _, fun _ _ _ => rfl⟩
theorem grown_trans {a b c : World} {r : Option Nat} (h : a.grownBy b none) (k : b.grownBy c none) : a.grownBy c r :=
  ⟨k.os.trans h.os, k.tape.trans h.tape, k.output.trans h.output, Nat.le_trans h.size k.size, fun i hi _ => (k.block i (Nat.lt_of_lt_of_le hi h.size) (by simp)).trans (h.block i hi (by simp))⟩

theorem box_set {w : World} {b : Nat} {cs : List Value} {e : TypeId} (h : Box w b cs e) (i : Nat) (v : Value) : Box (w.setCell ⟨b, i, none⟩ v) b (cs.set i v) e ∧ w.grownBy (w.setCell ⟨b, i, none⟩ v) (some b) := by
  constructor
  · unfold Box at *
    simp only [World.setCell, Array.getElem?_modify]
    rw [if_pos trivial, h]
    simp
  · refine ⟨rfl, rfl, rfl, by simp, fun k _ hk => Below.heap_setCell _ _ _ _ (fun e => hk (by simp at e; rw [e]))⟩

section
variable {P : Program} {ops : Array Oper} {Q : Exit → Act → World → Prop} {N : Nat} {rest : List Oper} {L : Sl} {w : World} {d : Nat} {ty : TypeId} {pos : String} {aft : Array Edge}

/-- A value put into a block of its own. -/
theorem wl_box1 {x : Operand} {t : TypeId} {v : Value} {cs : List Value} (hx : ev L x = some v) (hcs : v.cells = cs.toArray) (hd : Nat.blt d N = true)
    (h : ∀ w', Box w' w.heap.size cs t → w.grownBy w' none → w'.heap.size = w.heap.size + 1 → WL rest P ops Q N ((d, .pointer (some ⟨w.heap.size, 0, none⟩)) :: L) w') :
    WL (⟨some d, .box t x, ty, pos, aft, none⟩ :: rest) P ops Q N L w :=
  wl_box hx hd (by rw [hcs]; exact h _ (box_alloc w cs t) (grown_alloc w _) (by simp))
/-- A new variable, at nought. -/
theorem wl_alloc {t : TypeId} {z : Value} {cs : List Value} (hz : ∀ w : World, (zeroValue t).run P w = .ok z w) (hcs : z.cells = cs.toArray) (hd : Nat.blt d N = true)
    (h : ∀ w', Box w' w.heap.size cs t → w.grownBy w' none → w'.heap.size = w.heap.size + 1 → WL rest P ops Q N ((d, .pointer (some ⟨w.heap.size, 0, none⟩)) :: L) w') :
    WL (⟨some d, .alloc t, ty, pos, aft, none⟩ :: rest) P ops Q N L w := by
  intro a k
  refine st_of (o := ⟨some d, .alloc t, ty, pos, aft, none⟩) (v := .pointer (some ⟨w.heap.size, 0, none⟩)) (w' := w.alloc (.cells cs.toArray t)) rfl ?_ (h _ (box_alloc w cs t) (grown_alloc w _) (by simp) _ (k.put _ hd))
  simp [execOp, Instr.alloc, hz, newVar, newRow, hcs]
/-- One cell of such a block is read. -/
theorem wl_loadB {x : Operand} {b i : Nat} {t e : TypeId} {cs : List Value} {v : Value} (hx : ev L x = some (.pointer (some ⟨b, i, none⟩))) (ht : tyOne P t = true) (hd : Nat.blt d N = true) (hB : Box w b cs e) (hv : cs[i]? = some v) (h : WL rest P ops Q N ((d, v) :: L) w) :
    WL (⟨some d, .load t x, ty, pos, aft, none⟩ :: rest) P ops Q N L w := wl_load hx ht hd (hB.cell hv) h
/-- All of it is read. -/
theorem wl_loadBAgg {x : Operand} {b : Nat} {t e : TypeId} {cs : List Value} (hx : ev L x = some (.pointer (some ⟨b, 0, none⟩))) (ht : tyAgg P t = some cs.length) (hd : Nat.blt d N = true) (hB : Box w b cs e) (h : WL rest P ops Q N ((d, .agg cs.toArray) :: L) w) :
    WL (⟨some d, .load t x, ty, pos, aft, none⟩ :: rest) P ops Q N L w := wl_loadAgg hx ht hd (fun j v e => by rw [Nat.zero_add]; exact hB.cell e) h
/-- One cell of it is written. -/
theorem wl_storeB {x y : Operand} {b i : Nat} {t e : TypeId} {cs : List Value} {v old : Value} (hx : ev L x = some (.pointer (some ⟨b, i, none⟩))) (hy : ev L y = some v) (ht : tyOne P t = true) (h1 : v.oneCell' = true) (hB : Box w b cs e) (hv : cs[i]? = some old)
    (h : ∀ w', Box w' b (cs.set i v) e → w.grownBy w' (some b) → w'.heap.size = w.heap.size → WL rest P ops Q N L w') :
    WL (⟨none, .store t x y, ty, pos, aft, none⟩ :: rest) P ops Q N L w :=
  wl_store hx hy ht h1 (hB.cell hv) (hB.frozen i) (h _ (box_set hB i v).1 (box_set hB i v).2 (by simp))
theorem run_storeCells_box {b : Nat} {e : TypeId} : ∀ (vs : List Value) (i : Nat) (pre post : List Value) (w : World), (∀ v ∈ vs, v.oneCell' = true) → post.length = vs.length → pre.length = i → Box w b (pre ++ post) e →
    ∃ w', (storeCells ⟨b, 0, none⟩ vs i).run P w = .ok () w' ∧ Box w' b (pre ++ vs) e ∧ w.grownBy w' (some b) ∧ w'.heap.size = w.heap.size
  | [], i, pre, post, w, _, hl, _, hB => by
    have : post = [] := List.length_eq_zero_iff.1 (by simpa using hl)
    subst this
    exact ⟨w, rfl, hB, ⟨rfl, rfl, rfl, Nat.le_refl _, fun _ _ _ => rfl⟩, rfl⟩
  | v :: vs, i, pre, post, w, h1, hl, hp, hB => by
    cases post with
    | nil => cases hl
    | cons p post =>
      obtain ⟨hb1, hg1⟩ := box_set hB i v
      have hset : (pre ++ p :: post).set i v = (pre ++ [v]) ++ post := by subst hp; simp
      rw [hset] at hb1
      obtain ⟨w', hr, hb2, hg2, hs2⟩ := run_storeCells_box vs (i + 1) (pre ++ [v]) post (w.setCell ⟨b, i, none⟩ v) (fun u hu => h1 u (by simp [hu])) (by simpa using hl) (by simp [hp]) hb1
      refine ⟨w', ?_, by simpa using hb2, ?_, by rw [hs2]; simp⟩
      · have hc := hB.cell (i := i) (v := p) (by subst hp; simp)
        have hst := run_store P w ⟨b, i, none⟩ v .plain (h1 v (by simp))
        rw [hc] at hst
        simp only [hB.frozen i, Bool.false_eq_true, if_false] at hst
        simp only [storeCells, Sem.run_bind]
        rw [add_plain _ _ rfl]
        simp only [Nat.zero_add]
        rw [hst]
        exact hr
      · exact ⟨hg2.os.trans hg1.os, hg2.tape.trans hg1.tape, hg2.output.trans hg1.output, Nat.le_trans hg1.size hg2.size, fun k hk hne => (hg2.block k (Nat.lt_of_lt_of_le hk hg1.size) hne).trans (hg1.block k hk hne)⟩
/-- All of it is written. -/
theorem wl_storeBAgg {x y : Operand} {b : Nat} {t e : TypeId} {cs vs : List Value} {v : Value} (hx : ev L x = some (.pointer (some ⟨b, 0, none⟩))) (hy : ev L y = some v) (hv : v.cells = vs.toArray) (ht : (P.info? t).map (·.size) = some vs.length) (h1 : (vs.all fun v => v.oneCell') = true) (hB : Box w b cs e) (hl : cs.length = vs.length)
    (h : ∀ w', Box w' b vs e → w.grownBy w' (some b) → w'.heap.size = w.heap.size → WL rest P ops Q N L w') :
    WL (⟨none, .store t x y, ty, pos, aft, none⟩ :: rest) P ops Q N L w := by
  intro a k
  obtain ⟨w', hr, hb, hg, hs⟩ := run_storeCells_box (P := P) (e := e) vs 0 [] cs w (fun u hu => List.all_eq_true.1 h1 u hu) hl rfl hB
  refine st_of_skip (o := ⟨none, .store t x y, ty, pos, aft, none⟩) (w' := w') rfl ?_ (h _ hb hg hs _ k)
  cases hi : P.info? t with
  | none => simp [hi] at ht
  | some i =>
    simp [hi] at ht
    simp [execOp, k.eval hx, k.eval hy, Instr.storeAt, Instr.sureAddr, storeVar, hv, sizeOf, typeInfo, hi, ht, hr]
end
section
variable {P : Program} {N : Nat} {L : Sl} {w : World}
/-- The end of a function whose result lies in a block. -/
theorem qk_retCell {fn : Func} {R : Ending → World → Prop} {t b : Nat} {tt e : TypeId} {cs : List Value} (hr : fn.results = #[.cell t tt]) (hv : lk L t = some (.pointer (some ⟨b, 0, none⟩))) (ht : tyAgg P tt = some cs.length) (hB : Box w b cs e) (h : R (.returned (.agg cs.toArray)) w) : QK .ret (bodyPost P fn R) N L w := by
  intro a k
  have h1 := k.at_ t _ hv
  refine ⟨k.defers, .agg cs.toArray, ?_, h⟩
  have hl := run_loadCells_list (P := P) w ⟨b, 0, none⟩ cs (fun j v e => by rw [add_plain _ _ rfl]; simp only [Nat.zero_add]; exact hB.cell e)
  unfold tyAgg at ht
  simp only [gt] at h1
  rw [Array.getD_eq_getD_getElem?] at h1
  split at ht
  · rename_i u hu
    cases hi : P.info? tt with
    | none => simp [hi] at ht
    | some i => simp [hi] at ht; simp [results, hr, h1, loadVar, isAgg, run_underlying hu, sizeOf, typeInfo, hi, ht, hl, asAddr]
  · rename_i u hu
    cases hi : P.info? tt with
    | none => simp [hi] at ht
    | some i => simp [hi] at ht; simp [results, hr, h1, loadVar, isAgg, run_underlying hu, sizeOf, typeInfo, hi, ht, hl, asAddr]
  · cases ht
end
end Go.Proofs.Ytaoecdeljfdmeaa
