/- Rows of whatever elements while they grow, inside a struct that lies in a block of its own. Over any program. -/
import Derived.Test.YtaoecdeljfdmeaaRow
import Derived.Test.YtaoecdeljfdmeaaDraw2
namespace Go.Proofs.Ytaoecdeljfdmeaa
open Go Go.RowKit

theorem Rep.up {ok ok' : Nat → Prop} {w w' : World} {d : D} {cs : List Value} (hr : Rep ok w d cs) (h1 : ∀ b, ok b → ok' b) (h2 : ∀ b, ok b → w'.heap[b]? = w.heap[b]?) : Rep ok' w' d cs := Rep.mono (fun b hb => ⟨h1 b hb, h2 b hb⟩) d cs hr
theorem Reps.up {ok ok' : Nat → Prop} {w w' : World} {d : List D} {cs : List Value} (hr : Reps ok w d cs) (h1 : ∀ b, ok b → ok' b) (h2 : ∀ b, ok b → w'.heap[b]? = w.heap[b]?) : Reps ok' w' d cs := Reps.mono (fun b hb => ⟨h1 b hb, h2 b hb⟩) d cs hr
/-- The blocks that a call may lead to: those of what it was handed (below B), and its own (from lo on). -/
def In (B lo : Nat) (w : World) : Nat → Prop := fun r => (r < B ∨ lo ≤ r) ∧ r < w.heap.size
/-- Of these, all but the struct's own block and the row's. -/
def Off (B lo bx : Nat) (d : Value) (w : World) : Nat → Prop := fun r => (r < B ∨ lo ≤ r) ∧ r < w.heap.size ∧ r ≠ bx ∧ d.ownBlock ≠ some r
structure RowD (B lo bx e sz : Nat) (w : World) (d : Value) (ds : List D) : Prop where
  apart : d.ownBlock ≠ some bx
  low : ∀ g, d.ownBlock = some g → lo ≤ g ∧ g < w.heap.size
  row : ∃ xs, w.ownsRow lo e sz d ds.length xs ∧ Reps (Off B lo bx d w) w ds xs
theorem RowD.nil (B lo bx e sz : Nat) (w : World) : RowD B lo bx e sz w (.slice none 0 0) [] :=
  ⟨by simp [Value.ownBlock], by simp [Value.ownBlock], [], World.ownsRow_nil _ _ _ _, by simp [Reps]⟩
/-- All that was there stays. -/
theorem RowD.below {B lo bx e sz : Nat} {w w' : World} {d : Value} {ds : List D} (h : RowD B lo bx e sz w d ds) (hb : Below w.heap.size w w') : RowD B lo bx e sz w' d ds := by
  obtain ⟨ha, hl, xs, hr, hx⟩ := h
  refine ⟨ha, fun g hg => ⟨(hl g hg).1, Nat.lt_of_lt_of_le (hl g hg).2 hb.size⟩, xs, ?_, ?_⟩
  · refine World.ownsRow.kept hr (grown_of hb) ?_
    cases hd : d.ownBlock with
    | none => exact .inl rfl
    | some g => exact .inr (by simp)
  · exact hx.up (fun r hr => ⟨hr.1, Nat.lt_of_lt_of_le hr.2.1 hb.size, hr.2.2⟩) (fun r hr => hb.block r hr.2.1)
/-- The struct's own block turns. -/
theorem RowD.stored {B lo bx e sz : Nat} {w w' : World} {d : Value} {ds : List D} (h : RowD B lo bx e sz w d ds) (hg : w.grownBy w' (some bx)) : RowD B lo bx e sz w' d ds := by
  obtain ⟨ha, hl, xs, hr, hx⟩ := h
  refine ⟨ha, fun g hgd => ⟨(hl g hgd).1, Nat.lt_of_lt_of_le (hl g hgd).2 hg.size⟩, xs, World.ownsRow.kept hr hg (.inr ha), ?_⟩
  exact hx.up (fun r hr => ⟨hr.1, Nat.lt_of_lt_of_le hr.2.1 hg.size, hr.2.2⟩) (fun r hr => hg.block r hr.2.1 (by simpa using hr.2.2.1))
/-- One more. -/
theorem RowD.snoc {B lo bx e sz : Nat} {w w' : World} {d d' : Value} {ds : List D} {x : D} {cs xs : List Value} (h : RowD B lo bx e sz w d ds) (_ : lo ≤ w.heap.size) (hbx : bx < w.heap.size)
    (hr : Reps (Off B lo bx d w) w ds xs) (hc : Rep (Off B lo bx d w) w x cs) (hrow : w'.ownsRow lo e sz d' (ds.length + 1) (xs ++ cs)) (hg : Grew w w' d d') : RowD B lo bx e sz w' d' (ds ++ [x]) := by
  have hoff : ∀ r, Off B lo bx d w r → Off B lo bx d' w' r := by
    rintro r ⟨h1, h2, h3, h4⟩
    refine ⟨h1, Nat.lt_of_lt_of_le h2 hg.grown.size, h3, fun e => ?_⟩
    rcases hg.fresh with hf | hf
    · exact h4 (by rw [← hf]; exact e)
    · have := hf r e; omega
  have hblk : ∀ r, Off B lo bx d w r → w'.heap[r]? = w.heap[r]? := fun r hr => hg.grown.block r hr.2.1 (fun e => hr.2.2.2 e.symm)
  refine ⟨fun e => ?_, fun g hgd => ?_, xs ++ cs, by simpa using hrow, ?_⟩
  · rcases hg.fresh with hf | hf
    · exact h.apart (by rw [← hf]; exact e)
    · have := hf bx e; omega
  · have := World.ownsRow.lt hrow g hgd; exact this
  · rw [Reps.app]
    exact ⟨xs, cs, rfl, hr.up hoff hblk, by simp only [Reps]; exact ⟨cs, [], by simp, hc.up hoff hblk, rfl⟩⟩
/-- What it says, once it is done. -/
theorem RowD.sq {B lo bx e sz : Nat} {w : World} {d : Value} {ds : List D} (h : RowD B lo bx e sz w d ds) : Rep (In B lo w) w (.sq ds) [d] := by
  obtain ⟨ha, hl, xs, hr, hx⟩ := h
  simp only [Rep]
  have hx' : Reps (In B lo w) w ds xs := hx.up (fun _ hr => ⟨hr.1, hr.2.1⟩) (fun _ _ => rfl)
  by_cases hn : 0 < ds.length
  · obtain ⟨g, cap, hd, hg1, hg2, hc⟩ := Row.cells hr hn
    subst hd
    obtain ⟨_, ⟨he, _⟩ | ⟨g', cap', cur, he, _, _, hle, _⟩⟩ := hr
    · cases he
    · cases he
      exact ⟨_, cap, rfl, hle, .inr ⟨g, 0, xs, rfl, ⟨.inr hg1, hg2⟩, hc, hx'⟩⟩
  · have h0 : ds = [] := List.length_eq_zero_iff.1 (by omega)
    subst h0
    obtain ⟨hxl, ⟨rfl, _⟩ | ⟨g, cap, cur, rfl, hBg, hheap, hle, hcap, hcs, htake⟩⟩ := hr
    · exact ⟨none, 0, rfl, Nat.le_refl _, .inl rfl⟩
    · have hx0 : xs = [] := List.length_eq_zero_iff.1 (by simpa using hxl)
      subst hx0
      exact ⟨some ⟨g, 0, none⟩, cap, rfl, hle, .inr ⟨g, 0, [], rfl, ⟨.inr hBg, (Array.getElem?_eq_some_iff.1 hheap).1⟩, ⟨cur, e, (0, 0), hheap, by simp, by simp⟩, hx'⟩⟩
theorem RowD.shape {B lo bx e sz : Nat} {w : World} {d : Value} {ds : List D} (h : RowD B lo bx e sz w d ds) : ∃ a c, d = .slice a ds.length c := by
  obtain ⟨_, _, xs, hr, _⟩ := h; exact Row.shape hr
theorem Rep.inn {B B' lo : Nat} {w w' : World} {x : D} {cs : List Value} (h : Rep (Lo B') w x cs) (hb : Below B' w w') (hB : B' ≤ B) (hs : B' ≤ w'.heap.size) : Rep (In B lo w') w' x cs :=
  h.up (fun _ hr => ⟨.inl (Nat.lt_of_lt_of_le hr hB), Nat.lt_of_lt_of_le hr hs⟩) (fun r hr => hb.block r hr)
/-- What a call gives lies apart from all that was there. -/
theorem Rep.off {B lo bx : Nat} {w w' : World} {d : Value} {x : D} {cs : List Value} (h : Rep (In B w.heap.size w') w' x cs) (_ : lo ≤ w.heap.size) (hbx : B ≤ bx ∧ bx < w.heap.size) (hd : ∀ g, d.ownBlock = some g → B ≤ g ∧ g < w.heap.size) : Rep (Off B lo bx d w') w' x cs := by
  refine h.up (fun r hr => ⟨?_, hr.2, ?_, fun e => ?_⟩) (fun _ _ => rfl)
  · rcases hr.1 with h | h
    · exact .inl h
    · exact .inr (by omega)
  · rcases hr.1 with h | h <;> omega
  · have := hd r e
    rcases hr.1 with h | h <;> omega

section
variable {P : Program} {N : Nat} {L : Sl} {a : Act} {w : World} {d : Nat} {ty : TypeId} {pos : String} {aft : Array Edge} {g : Option (Nat × Bool)}
theorem run_slice1 {t e sz : Nat} {v : Value} {cs : List Value} (hT : rowTy P t e sz = true) (hv : v.cells = cs.toArray) (hc : cs.length = sz) (hsz : (Nat.blt 0 sz && Nat.ble sz 1000) = true) :
    (Instr.buildSlice t 1 #[(0, v)]).run P w = .ok (.slice (some ⟨w.heap.size, 0, none⟩) 1 1) (w.alloc (.cells cs.toArray e)) := by
  obtain ⟨hu, i, z, hi, hs1, hb1, hz, hzc⟩ := rowTy_out hT
  simp only [Bool.and_eq_true] at hsz
  have hsz1 : 0 < sz := Nat.le_of_ble_eq_true hsz.1
  have hsz2 : sz ≤ 1000 := Nat.le_of_ble_eq_true hsz.2
  have hfill := fill_one sz v cs ((List.range (1 * sz)).map (z.cells[· % z.cells.size]!)) hv hc (by simp)
  simp only [Instr.buildSlice]
  simp only [Sem.run_bind, run_underlying hu, Result.andThen_ok, sizeOf, typeInfo, run_program, hi, Sem.run_pure, hs1]
  rw [show ((2 : Nat) ^ 24) = 16777216 from rfl, if_neg (by omega), if_neg (by omega)]
  simp only [zeroValue, typeInfo, Sem.run_bind, run_program, Result.andThen_ok, hi, Sem.run_pure, hz]
  rw [← List.toArray_range, List.map_toArray, hfill]
  simp [newRow]
theorem does_slice1 {t e sz : Nat} {x : Operand} {v : Value} {cs : List Value} {R : Value → World → Prop} (k : Kn N a L) (hT : rowTy P t e sz = true) (hx : ev L x = some v) (hv : v.cells = cs.toArray) (hc : cs.length = sz) (hsz : (Nat.blt 0 sz && Nat.ble sz 1000) = true)
    (h : R (.slice (some ⟨w.heap.size, 0, none⟩) 1 1) (w.alloc (.cells cs.toArray e))) : Does P ⟨some d, .buildSlice t 1 #[(0, x)], ty, pos, aft, g⟩ a w R := by
  refine does_of (v := .slice (some ⟨w.heap.size, 0, none⟩) 1 1) (w' := w.alloc (.cells cs.toArray e)) ?_ h
  simp only [execOp, Sem.run_bind]
  have : Array.map (fun x => (x.1, a.eval x.2)) #[(0, x)] = #[(0, v)] := by simp [k.eval hx]
  rw [this, run_slice1 hT hv hc hsz]
  simp
theorem does_app1 {t e sz B n b : Nat} {s x : Operand} {dv : Value} {xs cs : List Value} {R : Value → World → Prop} (k : Kn N a L) (hT : rowTy P t e sz = true) (hs : ev L s = some dv) (hx : ev L x = some (.slice (some ⟨b, 0, none⟩) 1 1)) (hbox : Box w b cs e) (hc : cs.length = sz) (h1 : (cs.all fun v => v.oneCell') = true)
    (hown : w.ownsRow B e sz dv n xs) (hB : B ≤ w.heap.size) (hlim : n + 1 ≤ many) (h : ∀ d' w', w'.ownsRow B e sz d' (n + 1) (xs ++ cs) → Grew w w' dv d' → R d' w') :
    Does P ⟨some d, .call ⟨.builtin .append, #[s, x], #[t, t]⟩, ty, pos, aft, g⟩ a w R := by
  obtain ⟨hu, i, z, hi, hs1, hb1, hz, hzc⟩ := rowTy_out hT
  have h1' : ∀ v ∈ cs, v.oneCell' = true := fun v hv => List.all_eq_true.1 h1 v hv
  obtain ⟨d', w', hr, ho, hgr⟩ := run_app (P := P) w B t t ty e i z (.slice e) hu hu (.inl ⟨e, rfl⟩) hi hz (by rw [hzc, hs1]) dv n xs (by rw [hs1]; exact hown)
    (.slice (some ⟨b, 0, none⟩) 1 1) 1 cs (by rw [hc, hs1, Nat.one_mul]) h1' (fun w' => by simp [Builtin.lenOf])
    (fun w' hw' => by
      refine run_firstCells_some (P := P) w' i.size 1 _ _ _ cs (by rw [hc, hs1, Nat.one_mul]) (fun j v hv => ?_)
      have h1 := hbox.cell hv
      rw [add_plain _ _ rfl]
      simp only [Nat.zero_add]
      rcases hw' with rfl | rfl
      · exact h1
      · exact h1)
    (by have := Nat.mul_le_mul hlim hb1; simp only [many, lim] at *; omega) (by simp only [maxLen, many] at *; omega) hB
  refine does_of (v := d') (w' := w') ?_ (h d' w' (by rw [hs1] at ho; exact ho) hgr)
  simp only [execOp, resolve, List.map_toArray, List.map_cons, List.map_nil, k.eval hs, k.eval hx, Sem.run_bind, Sem.run_pure, Result.andThen_ok, invoke, builtin, hr]
theorem does_storeB {x y : Operand} {b i : Nat} {t e : TypeId} {cs : List Value} {v old : Value} {R : Value → World → Prop} (k : Kn N a L) (hx : ev L x = some (.pointer (some ⟨b, i, none⟩))) (hy : ev L y = some v) (ht : tyOne P t = true) (h1 : v.oneCell' = true) (hB : Box w b cs e) (hv : cs[i]? = some old)
    (h : ∀ w', Box w' b (cs.set i v) e → w.grownBy w' (some b) → w'.heap.size = w.heap.size → R undef w') : Does P ⟨none, .store t x y, ty, pos, aft, g⟩ a w R := by
  refine does_skip (w' := w.setCell ⟨b, i, none⟩ v) ?_ (h _ (box_set hB i v).1 (box_set hB i v).2 (by simp))
  have hcs : v.cells = #[v] := by cases v <;> simp_all [Value.cells, Value.oneCell']
  have hst := run_store P w ⟨b, i, none⟩ v .plain h1
  rw [hB.cell hv] at hst
  simp only [hB.frozen i, Bool.false_eq_true, if_false] at hst
  have ha0 : (⟨b, i, none⟩ : Addr).add 0 = ⟨b, i, none⟩ := by simp [Addr.add]
  simp [execOp, k.eval hx, k.eval hy, Instr.storeAt, Instr.sureAddr, storeVar, hcs, run_sizeOf_one ht, storeCells, ha0, hst]
theorem does_build {t : TypeId} {ps : List (Nat × Operand)} {vs : List (Nat × Value)} {cs : List Value} {R : Value → World → Prop} (k : Kn N a L) (hps : evps L ps = some vs) (hb : P.built t vs = some cs.toArray) (h : R (.agg cs.toArray) w) : Does P ⟨some d, .build t ps.toArray, ty, pos, aft, g⟩ a w R := by
  refine does_of (v := .agg cs.toArray) (w' := w) ?_ h
  have e := evps_spec k ps vs hps
  have : (ps.toArray.map fun x => (x.1, a.eval x.2)).toList = vs := by simpa using e
  have hr := run_build (P := P) w t (ps.toArray.map fun x => (x.1, a.eval x.2)) cs.toArray (by rw [this]; exact hb)
  simp only [execOp, Sem.run_bind, hr, Result.andThen_ok, Sem.run_pure]
end
end Go.Proofs.Ytaoecdeljfdmeaa
