/- Rows that the call itself owns, of whatever elements: one more behind, a write into one, what they hold. Over any program. -/
import Derived.Test.YtaoecdeljfdmeaaTree
import Derived.Test.YtaoecdeljfdmeaaMem
import Derived.Test.YtaoecdeljfdmeaaStep3
namespace Go.Proofs.Ytaoecdeljfdmeaa
open Go Go.RowKit

/-- The type t is of slices of e's, each of sz cells. -/
def rowTy (P : Program) (t e sz : Nat) : Bool :=
  (match P.underlying t with | some (.slice e') => Nat.beq e' e | _ => false) &&
  (match P.info? e with | some i => Nat.beq i.size sz && Nat.ble i.bytes 1024 && (match i.zero with | some z => Nat.beq z.cells.size sz | none => false) | none => false)
theorem rowTy_out {P : Program} {t e sz : Nat} (h : rowTy P t e sz = true) :
    P.underlying t = some (.slice e) ∧ ∃ i z, P.info? e = some i ∧ i.size = sz ∧ i.bytes ≤ 1024 ∧ i.zero = some z ∧ z.cells.size = sz := by
  unfold rowTy at h
  simp only [Bool.and_eq_true] at h
  obtain ⟨h1, h2⟩ := h
  constructor
  · split at h1
    · rename_i e' he; have := beq_out h1; subst this; exact he
    · cases h1
  · split at h2
    · rename_i i hi
      simp only [Bool.and_eq_true] at h2
      obtain ⟨⟨h3, h4⟩, h5⟩ := h2
      split at h5
      · rename_i z hz; exact ⟨i, z, hi, beq_out h3, Nat.le_of_ble_eq_true h4, hz, beq_out h5⟩
      · cases h5
    · cases h2
/-- The greatest count of elements that these walks speak of. -/
def many : Nat := 68719476736

theorem Row.cells {w : World} {B e sz : Nat} {d : Value} {n : Nat} {xs : List Value} (h : w.ownsRow B e sz d n xs) (hn : 0 < n) :
    ∃ g cap, d = .slice (some ⟨g, 0, none⟩) n cap ∧ B ≤ g ∧ g < w.heap.size ∧ CellsAt w g 0 xs := by
  obtain ⟨hxl, ⟨rfl, h0⟩ | ⟨g, cap, cur, rfl, hBg, hheap, hle, hcap, hcs, htake⟩⟩ := h
  · omega
  · refine ⟨g, cap, rfl, hBg, (Array.getElem?_eq_some_iff.1 hheap).1, cur, e, (0, 0), hheap, ?_, ?_⟩
    · rw [hxl, hcs, Nat.zero_add]; exact Nat.mul_le_mul_right _ hle
    · intro i v hv
      rw [← htake, List.getElem?_take] at hv
      split at hv
      · simpa using hv
      · cases hv
theorem Row.shape {w : World} {B e sz : Nat} {d : Value} {n : Nat} {xs : List Value} (h : w.ownsRow B e sz d n xs) : ∃ a c, d = .slice a n c := by
  rcases h.2 with ⟨rfl, h0⟩ | ⟨g, cap, cur, rfl, _⟩
  · exact ⟨none, 0, by rw [h0]⟩
  · exact ⟨_, _, rfl⟩
theorem Row.length {w : World} {B e sz : Nat} {d : Value} {n : Nat} {xs : List Value} (h : w.ownsRow B e sz d n xs) : xs.length = n * sz := h.1
theorem Row.mono {w : World} {B B' e sz : Nat} {d : Value} {n : Nat} {xs : List Value} (h : w.ownsRow B e sz d n xs) (hB : B' ≤ B) : w.ownsRow B' e sz d n xs := by
  refine ⟨h.1, ?_⟩
  rcases h.2 with h2 | ⟨g, cap, cur, hv, hb, r⟩
  · exact .inl h2
  · exact .inr ⟨g, cap, cur, hv, Nat.le_trans hB hb, r⟩
theorem Row.ge {w : World} {B e sz : Nat} {d : Value} {n : Nat} {xs : List Value} (h : w.ownsRow B e sz d n xs) : ∀ g, d.ownBlock = some g → B ≤ g :=
  fun g hg => (World.ownsRow.lt h g hg).1
/-- A row that holds what it holds is a slice that says so. -/
theorem Row.sq {w : World} {B B' e sz : Nat} {d : Value} {ds : List D} {xs : List Value} (h : w.ownsRow B e sz d ds.length xs) (hr : Reps (Lo B') w ds xs) (hB : w.heap.size ≤ B') : Sq B' w d ds := by
  simp only [Sq, Rep]
  by_cases hn : 0 < ds.length
  · obtain ⟨hxl, ⟨rfl, h0⟩ | ⟨g, cap, cur, rfl, hBg, hheap, hle, hcap, hcs, htake⟩⟩ := id h
    · omega
    · obtain ⟨g', cap', hd, hBg, hlt, hc⟩ := Row.cells h hn
      cases hd
      exact ⟨_, cap, rfl, hle, .inr ⟨g, 0, xs, rfl, by simp only [Lo]; omega, hc, hr⟩⟩
  · have h0 : ds = [] := List.length_eq_zero_iff.1 (by omega)
    subst h0
    obtain ⟨hxl, ⟨rfl, _⟩ | ⟨g, cap, cur, rfl, hBg, hheap, hle, hcap, hcs, htake⟩⟩ := h
    · exact ⟨none, 0, rfl, Nat.le_refl _, .inl rfl⟩
    · have hx0 : xs = [] := List.length_eq_zero_iff.1 (by simpa using hxl)
      subst hx0
      have hlt := (Array.getElem?_eq_some_iff.1 hheap).1
      exact ⟨some ⟨g, 0, none⟩, cap, rfl, hle, .inr ⟨g, 0, [], rfl, by simp only [Lo]; omega, ⟨cur, e, (0, 0), hheap, by simp, by simp⟩, hr⟩⟩

theorem fold_sets (o : Nat) : ∀ (l : List Value) (k : Nat) (pre post : List Value), pre.length = o + k → post.length = l.length →
    (l.zipIdx k).foldl (fun cs p => cs.setIfInBounds (o + p.2) p.1) (pre ++ post).toArray = (pre ++ l).toArray
  | [], k, pre, post, _, h => by
    have : post = [] := List.length_eq_zero_iff.1 (by simpa using h)
    subst this; rfl
  | v :: l, k, pre, post, hp, h => by
    cases post with
    | nil => cases h
    | cons x post =>
      simp only [List.zipIdx_cons, List.foldl_cons]
      have hset : (pre ++ x :: post).toArray.setIfInBounds (o + k) v = ((pre ++ [v]) ++ post).toArray := by
        rw [List.setIfInBounds_toArray, ← hp]; simp
      rw [hset, fold_sets o l (k + 1) (pre ++ [v]) post (by simp [hp]; omega) (by simpa using h)]
      simp
theorem fill_one (sz : Nat) (v : Value) (cs z : List Value) (hv : v.cells = cs.toArray) (hc : cs.length = sz) (hz : z.length = sz) :
    Instr.fill (fun i => some (i * sz, sz)) z.toArray [(0, v)] = some cs.toArray := by
  have h1 : ¬ (v.cells.size ≠ sz) := by rw [hv]; simp [hc]
  have h2 : ¬ (0 * sz + v.cells.size > z.toArray.size) := by rw [hv]; simp [hc, hz]
  simp only [Instr.fill, h1, h2, decide_false, Bool.or_false, Bool.false_eq_true, if_false]
  rw [hv]
  have := fold_sets 0 cs 0 [] z rfl (by rw [hz, hc])
  simp only [List.nil_append, Nat.zero_add] at this
  simp only [Nat.zero_mul, Nat.zero_add]
  congr 1
  refine Eq.trans ?_ this
  have hz : cs.toArray.zipIdx = (cs.zipIdx).toArray := by
    apply Array.ext'
    simp
  rw [hz]
  simp

section
variable {P : Program} {ops : Array Oper} {Q : Exit → Act → World → Prop} {N : Nat} {rest : List Oper} {L : Sl} {w : World} {d : Nat} {ty : TypeId} {pos : String} {aft : Array Edge}
/-- A stop between two pieces of code: what holds there. -/
theorem wc_cutT {α : Type} {x y : Code} (Lf : α → Sl) (Wf : α → World → Prop) (hx : WC x P (Exit.then (fun a w => ∃ z, Kn N a (Lf z) ∧ Wf z w) Q) N L w) (hy : ∀ z w', Wf z w' → WC y P Q N (Lf z) w') : WC x P (Thn P y Q) N L w := by
  refine wc_mono hx (fun e a w' h => ?_)
  cases e with
  | normal => obtain ⟨z, k, hz⟩ := h; exact hy z w' hz a k
  | _ => exact h
theorem wc_cut {α : Type} {x y : Code} (Lf : α → Sl) (Wf : α → World → Prop) (hx : WC x P (Exit.then (fun a w => ∃ z, Kn N a (Lf z) ∧ Wf z w) Q) N L w) (hy : ∀ z w', Wf z w' → WC y P Q N (Lf z) w') : WC (.seq x y) P Q N L w :=
  wc_seq (wc_cutT Lf Wf hx hy)
theorem qk_cut {α : Type} {Lf : α → Sl} {Wf : α → World → Prop} (z : α) (hL : Sub (Lf z) L) (hW : Wf z w) : QK .normal (Exit.then (fun a w => ∃ z, Kn N a (Lf z) ∧ Wf z w) Q) N L w := fun _ k => ⟨z, k.weaken hL, hW⟩
/-- One more element behind a row. -/
theorem wl_app1 {t e sz B t1 n : Nat} {s x : Operand} {dv v : Value} {xs cs : List Value} {ty1 : TypeId} {pos1 : String} {aft1 : Array Edge}
    (hT : rowTy P t e sz = true) (hx : ev L x = some v) (hv : v.cells = cs.toArray) (hc : cs.length = sz) (h1 : (cs.all fun v => v.oneCell') = true) (hsz : (Nat.blt 0 sz && Nat.ble sz 1000) = true) (ht1 : Nat.blt t1 N = true) (hd : Nat.blt d N = true)
    (hs : ev ((t1, .slice (some ⟨w.heap.size, 0, none⟩) 1 1) :: L) s = some dv)
    (hown : w.ownsRow B e sz dv n xs) (hB : B ≤ w.heap.size) (hlim : n + 1 ≤ many)
    (h : ∀ d' w', w'.ownsRow B e sz d' (n + 1) (xs ++ cs) → Grew w w' dv d' → WL rest P ops Q N ((d, d') :: (t1, .slice (some ⟨w.heap.size, 0, none⟩) 1 1) :: L) w') :
    WL (⟨some t1, .buildSlice t 1 #[(0, x)], ty1, pos1, aft1, none⟩ :: ⟨some d, .call ⟨.builtin .append, #[s, .tmp t1], #[t, t]⟩, ty, pos, aft, none⟩ :: rest) P ops Q N L w := by
  intro a k
  obtain ⟨hu, i, z, hi, hs1, hb1, hz, hzc⟩ := rowTy_out hT
  simp only [Bool.and_eq_true] at hsz
  have hsz1 : 0 < sz := Nat.le_of_ble_eq_true hsz.1
  have hsz2 : sz ≤ 1000 := Nat.le_of_ble_eq_true hsz.2
  have h1' : ∀ v ∈ cs, v.oneCell' = true := fun v hv => List.all_eq_true.1 h1 v hv
  refine st_of (o := ⟨some t1, .buildSlice t 1 #[(0, x)], ty1, pos1, aft1, none⟩) (v := .slice (some ⟨w.heap.size, 0, none⟩) 1 1) (w' := w.alloc (.cells cs.toArray e)) rfl ?_ ?_
  · have hfill := fill_one sz v cs ((List.range (1 * sz)).map (z.cells[· % z.cells.size]!)) hv hc (by simp)
    simp only [execOp, Instr.buildSlice]
    simp only [Sem.run_bind, run_underlying hu, Result.andThen_ok, sizeOf, typeInfo, run_program, hi, Sem.run_pure, hs1]
    rw [show ((2 : Nat) ^ 24) = 16777216 from rfl, if_neg (by omega), if_neg (by omega)]
    simp only [zeroValue, typeInfo, Sem.run_bind, run_program, Result.andThen_ok, hi, Sem.run_pure, hz]
    have hp : (Array.map (fun x => (x.1, a.eval x.2)) #[(0, x)]).toList = [(0, v)] := by simp [k.eval hx]
    rw [hp, ← List.toArray_range, List.map_toArray, hfill]
    simp [newRow]
  · have k1 := k.put (.slice (some ⟨w.heap.size, 0, none⟩) 1 1) ht1
    obtain ⟨d', w', hr, ho, hgr⟩ := run_app (P := P) (w.alloc (.cells cs.toArray e)) B t t ty e i z (.slice e) hu hu (.inl ⟨e, rfl⟩) hi hz (by rw [hzc, hs1]) dv n xs (by rw [hs1]; exact World.ownsRow.alloc hown _)
      (.slice (some ⟨w.heap.size, 0, none⟩) 1 1) 1 cs (by rw [hc, hs1, Nat.one_mul]) h1' (fun w' => by simp [Builtin.lenOf])
      (fun w' hw' => by
        refine run_firstCells_some (P := P) w' i.size 1 _ _ _ cs (by rw [hc, hs1, Nat.one_mul]) (fun j v hv => ?_)
        have h1 : (w.alloc (.cells cs.toArray e)).cell? ⟨w.heap.size, j, none⟩ = some v := by rw [World.cell?_alloc_new]; simpa using hv
        rw [add_plain _ _ rfl]
        simp only [Nat.zero_add]
        rcases hw' with rfl | rfl
        · exact h1
        · exact h1)
      (by have := Nat.mul_le_mul hlim hb1; simp only [many, lim] at *; omega) (by simp only [maxLen, many] at *; omega) (by simp; omega)
    refine st_of (o := ⟨some d, .call ⟨.builtin .append, #[s, .tmp t1], #[t, t]⟩, ty, pos, aft, none⟩) (v := d') (w' := w') rfl ?_ (h d' w' ?_ ?_ _ (k1.put _ hd))
    · have e1 := k1.eval hs
      have e2 : (a.put (some t1) (.slice (some ⟨w.heap.size, 0, none⟩) 1 1)).eval (.tmp t1) = .slice (some ⟨w.heap.size, 0, none⟩) 1 1 := k1.at_ t1 _ (by simp [lk, Nat.beq_refl])
      simp only [execOp, resolve, List.map_toArray, List.map_cons, List.map_nil, e1, e2, Sem.run_bind, Sem.run_pure, Result.andThen_ok, invoke, builtin, hr]
    · rw [hs1] at ho; exact ho
    · exact Grew.trans ⟨World.grownBy_alloc w _ _, .inl rfl⟩ hgr
/-- One element of a row is written anew. -/
theorem wl_storeRow {x y : Operand} {t e sz B n j g cap : Nat} {v : Value} {xs cs : List Value} (hown : w.ownsRow B e sz (.slice (some ⟨g, 0, none⟩) n cap) n xs) (hx : ev L x = some (.pointer (some ⟨g, 0 + j * sz, none⟩))) (hy : ev L y = some v) (hv : v.cells = cs.toArray) (hc : cs.length = sz) (ht : (P.info? t).map (·.size) = some sz) (h1 : (cs.all fun v => v.oneCell') = true) (hj : j < n)
    (h : ∀ w', w'.ownsRow B e sz (.slice (some ⟨g, 0, none⟩) n cap) n (xs.take (j * sz) ++ cs ++ xs.drop (j * sz + sz)) → w.grownBy w' (some g) → w'.heap.size = w.heap.size → WL rest P ops Q N L w') :
    WL (⟨none, .store t x y, ty, pos, aft, none⟩ :: rest) P ops Q N L w := by
  intro a k
  obtain ⟨hxl, ⟨he, h0⟩ | ⟨g', cap', cur, he, hBg, hheap, hle, hcap, hcs, htake⟩⟩ := hown
  · cases he
  · cases he
    have hjn : j * sz + sz ≤ n * sz := by rw [← Nat.succ_mul]; exact Nat.mul_le_mul_right _ hj
    have hnc : n * sz ≤ cap * sz := Nat.mul_le_mul_right _ hle
    have hst := run_storeCells_at P g (j * sz) e cs 0 cur w hheap (by omega) (fun u hu => List.all_eq_true.1 h1 u hu)
    simp only [Nat.add_zero] at hst
    refine st_of_skip (o := ⟨none, .store t x y, ty, pos, aft, none⟩) (w' := w.setRow g (cur.toList.take (j * sz) ++ cs ++ cur.toList.drop (j * sz + cs.length)).toArray) rfl ?_ (h _ ?_ ?_ (by simp) _ k)
    · cases hi : P.info? t with
      | none => simp [hi] at ht
      | some i =>
        simp [hi] at ht
        simp only [Nat.zero_add] at hx
        simp [execOp, k.eval hx, k.eval hy, Instr.storeAt, Instr.sureAddr, storeVar, hv, sizeOf, typeInfo, hi, ht, hst, hc]
    · refine ⟨?_, .inr ⟨g, cap, _, rfl, hBg, setRow_heap w g cur _ e _ hheap, hle, hcap, ?_, ?_⟩⟩
      · simp only [List.length_append, List.length_take, List.length_drop, hc, hxl]; omega
      · simp only [List.size_toArray, List.length_append, List.length_take, List.length_drop, Array.length_toList, hc, hcs]; omega
      · have hl : cur.toList.length = cap * sz := by simp [hcs]
        simp only [hc]
        rw [← htake, List.take_take, Nat.min_eq_left (by omega), List.drop_take]
        rw [List.take_append, List.take_of_length_le (by simp only [List.length_append, List.length_take, hl, hc]; omega)]
        congr 2
        simp only [List.length_append, List.length_take, hl, hc]; omega
    · exact ⟨rfl, rfl, rfl, by simp, fun k' _ hk => setRow_other w g k' _ (fun e' => hk (by rw [e']))⟩
end
end Go.Proofs.Ytaoecdeljfdmeaa
