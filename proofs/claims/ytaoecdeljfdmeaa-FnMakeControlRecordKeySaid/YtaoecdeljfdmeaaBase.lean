/- Small words on which the walks of this claim rest: slots, bytes that the call itself owns, what an append leaves. No program in sight. -/
import Derived.WalkKit
import Derived.WalkSpells
import Derived.WalkLawsBesides
import Derived.KernelRfl
namespace Go.Proofs.Ytaoecdeljfdmeaa
open Go Go.RowKit

/-- What a slot holds. -/
def gt (a : Act) (t : Nat) : Value := a.tmps.getD t undef

theorem eval_tmp (a : Act) (t : Nat) : a.eval (.tmp t) = gt a t := rfl
theorem eval_const (a : Act) (v : Value) : a.eval (.const v) = v := rfl
theorem eval_func (a : Act) (f : Nat) : a.eval (.func f) = .func (.func f) #[] #[] := rfl

theorem put_size (a : Act) (d : Option Nat) (v : Value) : (a.put d v).tmps.size = a.tmps.size := by
  cases d <;> simp [Act.put]
theorem put_defers (a : Act) (d : Option Nat) (v : Value) : (a.put d v).defers = a.defers := by
  cases d <;> simp [Act.put]
theorem gt_put (a : Act) (d t : Nat) (v : Value) (h : d < a.tmps.size) : gt (a.put (some d) v) t = if t = d then v else gt a t := by
  simp only [gt, Act.put, Array.getD_eq_getD_getElem?, Array.getElem?_setIfInBounds]
  by_cases e : d = t
  · subst e; simp [h]
  · have e' : ¬ t = d := fun x => e x.symm
    simp [e, e']
theorem gt_put_same (a : Act) (d : Nat) (v : Value) (h : d < a.tmps.size) : gt (a.put (some d) v) d = v := by
  rw [gt_put a d d v h, if_pos rfl]
theorem gt_put_ne (a : Act) (d t : Nat) (v : Value) (h : t ≠ d) : gt (a.put (some d) v) t = gt a t := by
  simp only [gt, Act.put, Array.getD_eq_getD_getElem?, Array.getElem?_setIfInBounds]
  rw [if_neg (fun x => h x.symm)]
theorem put_none (a : Act) (v : Value) : a.put none v = a := rfl

/-- Bytes as cells. -/
def bv (xs : List UInt8) : List Value := xs.map fun c => .int .u8 c.toNat
theorem bv_length (xs : List UInt8) : (bv xs).length = xs.length := by simp [bv]
theorem bv_append (xs ys : List UInt8) : bv (xs ++ ys) = bv xs ++ bv ys := by simp [bv]
theorem bv_one (xs : List UInt8) : ∀ u ∈ bv xs, u.oneCell' = true := by
  intro u hu
  simp only [bv, List.mem_map] at hu
  obtain ⟨c, _, rfl⟩ := hu
  rfl

/-- The greatest length that these walks speak of. -/
def lim : Nat := 140737488355328

/-- The slice 'd' is the call's own from block B on and holds the bytes xs. -/
def Own (w : World) (B u8 : Nat) (d : Value) (xs : List UInt8) : Prop := w.ownsRow B u8 1 d xs.length (bv xs)

/-- What an append to 'd' that comes to 'd'' leaves: only d's own block may have turned, and d' lies there or in a new block. -/
structure Grew (w w' : World) (d d' : Value) : Prop where
  grown : w.grownBy w' d.ownBlock
  fresh : d'.ownBlock = d.ownBlock ∨ ∀ g, d'.ownBlock = some g → w.heap.size ≤ g

theorem Grew.refl (w : World) (d : Value) : Grew w w d d := ⟨⟨rfl, rfl, rfl, Nat.le_refl _, fun _ _ _ => rfl⟩, .inl rfl⟩
theorem Grew.trans {a b c : World} {d e f : Value} (h : Grew a b d e) (k : Grew b c e f) : Grew a c d f := by
  refine ⟨⟨k.grown.os.trans h.grown.os, k.grown.tape.trans h.grown.tape, k.grown.output.trans h.grown.output, Nat.le_trans h.grown.size k.grown.size, fun i hi hne => ?_⟩, ?_⟩
  · have h1 := h.grown.block i hi hne
    rw [← h1]
    refine k.grown.block i (Nat.lt_of_lt_of_le hi h.grown.size) (fun e' => ?_)
    rcases h.fresh with hf | hf
    · exact hne (e'.trans hf)
    · have := hf i e'.symm; omega
  · rcases k.fresh with kf | kf
    · rcases h.fresh with hf | hf
      · exact .inl (kf.trans hf)
      · exact .inr (fun g hg => hf g (kf ▸ hg))
    · exact .inr (fun g hg => Nat.le_trans h.grown.size (kf g hg))
theorem Grew.below {w w' : World} {d d' : Value} {B : Nat} (h : Grew w w' d d') (hB : B ≤ w.heap.size) (hd : ∀ g, d.ownBlock = some g → B ≤ g) : Below B w w' :=
  ⟨h.grown.os, h.grown.tape, h.grown.output, h.grown.size, fun k hk => h.grown.block k (by omega) (fun e => by have := hd k e.symm; omega)⟩
theorem Own.ge {w : World} {B u8 : Nat} {d : Value} {xs : List UInt8} (h : Own w B u8 d xs) : ∀ g, d.ownBlock = some g → B ≤ g :=
  fun g hg => (World.ownsRow.lt h g hg).1
theorem Own.lt {w : World} {B u8 : Nat} {d : Value} {xs : List UInt8} (h : Own w B u8 d xs) : ∀ g, d.ownBlock = some g → g < w.heap.size :=
  fun g hg => (World.ownsRow.lt h g hg).2
theorem Own.nil (w : World) (B u8 : Nat) : Own w B u8 (.slice none 0 0) [] := World.ownsRow_nil w B u8 1
/-- What is owned stays owned while other blocks turn. -/
theorem Own.kept {w w' : World} {B u8 : Nat} {d : Value} {xs : List UInt8} {row : Option Nat} (h : Own w B u8 d xs) (hg : w.grownBy w' row) (hne : d.ownBlock = none ∨ d.ownBlock ≠ row) : Own w' B u8 d xs :=
  World.ownsRow.kept h hg hne
theorem Own.alloc {w : World} {B u8 : Nat} {d : Value} {xs : List UInt8} (h : Own w B u8 d xs) (o : Obj) : Own (w.alloc o) B u8 d xs := World.ownsRow.alloc h o
theorem Own.mono {w : World} {B B' u8 : Nat} {d : Value} {xs : List UInt8} (h : Own w B u8 d xs) (hB : B' ≤ B) : Own w B' u8 d xs := by
  refine ⟨h.1, ?_⟩
  rcases h.2 with h2 | ⟨g, cap, cur, hv, hb, r⟩
  · exact .inl h2
  · exact .inr ⟨g, cap, cur, hv, Nat.le_trans hB hb, r⟩
theorem Own.shape {w : World} {B u8 : Nat} {d : Value} {xs : List UInt8} (h : Own w B u8 d xs) : ∃ a c, d = .slice a xs.length c := by
  rcases h.2 with ⟨rfl, h0⟩ | ⟨g, cap, cur, rfl, _⟩
  · exact ⟨none, 0, by rw [h0]⟩
  · exact ⟨_, _, rfl⟩

/-- The builtin append, from whatever source whose cells are known. -/
theorem run_app {P : Program} (w : World) (B : Nat) (t u ty e : TypeId) (i : TypeInfo) (z : Value) (tu : TypeDesc) (ht : P.underlying t = some (.slice e)) (hu : P.underlying u = some tu)
    (htu : (∃ e', tu = .slice e') ∨ tu = .string)
    (hi : P.info? e = some i) (hz : i.zero = some z) (hzs : z.cells.size = i.size) (d : Value) (n : Nat) (xs : List Value) (hown : w.ownsRow B e i.size d n xs) (x : Value) (m : Nat) (news : List Value)
    (hl : news.length = m * i.size) (h1 : ∀ u ∈ news, u.oneCell' = true) (hlen : ∀ w' : World, (Builtin.lenOf x).run P w' = .ok m w')
    (hfc : ∀ w', (w' = w ∨ w' = w.drew) → (Builtin.firstCells i.size m x).run P w' = .ok news.toArray w')
    (hb : (n + m) * i.bytes ≤ lim) (h63 : n + m ≤ maxLen) (hB : B ≤ w.heap.size) :
    ∃ d' w', (Builtin.append_ #[t, u] ty #[d, x]).run P w = .ok d' w' ∧ w'.ownsRow B e i.size d' (n + m) (xs ++ news) ∧ Grew w w' d d' := by
  have hsmall : n + m ≤ 9223372036854775807 := by simp only [maxLen] at h63; omega
  have hfw := hfc w (.inl rfl)
  have hfd := hfc w.drew (.inr rfl)
  rcases hown with ⟨hxl, ⟨rfl, rfl⟩ | ⟨g, cap, cur, rfl, hBg, hheap, hle, hcap, hcs, htake⟩⟩
  · have hx0 : xs = [] := List.length_eq_zero_iff.1 (by simpa using hxl)
    subst hx0
    by_cases hm : m = 0
    · subst hm
      have hn0 : news = [] := List.length_eq_zero_iff.1 (by simpa using hl)
      subst hn0
      refine ⟨.slice none 0 0, w, ?_, World.ownsRow_nil w B e i.size, Grew.refl _ _⟩
      rcases htu with ⟨e', rfl⟩ | rfl <;> simp [Builtin.append_, run_underlying ht, run_underlying hu, sizeOf, typeInfo, hi, hlen, hfw]
    · have hc := grownCap_ge w m 0 e
      refine ⟨.slice (some ⟨w.heap.size, 0, none⟩) m (grownCap w m 0 e), w.drew.alloc (.cells (news.toArray ++ Builtin.zeroCells z.cells (grownCap w m 0 e - m)) e), ?_, ?_, ?_⟩
      · have h48 : ¬ (281474976710656 < Builtin.nextslicecap m 0 * i.bytes) := by
          rw [nextslicecap_zero (by omega)]; simp only [Nat.zero_add, lim] at hb; omega
        have h63' : ¬ (9223372036854775807 < (m : Int)) := by omega
        rcases htu with ⟨e', rfl⟩ | rfl <;> simp [Builtin.append_, run_underlying ht, run_underlying hu, sizeOf, typeInfo, zeroValue, hi, hz, hlen, hm, h63', h48, Question.forced, run_firstCells_none, hfd, newRow, grownCap]
      · refine ⟨by simpa using hl, .inr ⟨w.heap.size, grownCap w m 0 e, news.toArray ++ Builtin.zeroCells z.cells (grownCap w m 0 e - m), by simp, hB, heap_alloc_new w.drew _, by omega, grownCap_le_maxLen w m 0 e (by omega), ?_, ?_⟩⟩
        · simp only [Array.size_append, List.size_toArray, hl, size_zeroCells, hzs]
          rw [← Nat.add_mul]; congr 1; omega
        · simp only [Nat.zero_add, List.nil_append, Array.toList_append]
          rw [← hl]; simp
      · refine ⟨⟨rfl, rfl, rfl, by simp, fun k hk _ => Below.heap_alloc w.drew _ k hk⟩, .inr ?_⟩
        intro g hg
        simp [Value.ownBlock] at hg
        omega
  · by_cases hroom : n + m ≤ cap
    · refine ⟨.slice (some ⟨g, 0, none⟩) (n + m) cap, w.setRow g (cur.toList.take (n * i.size) ++ news ++ cur.toList.drop (n * i.size + news.length)).toArray, ?_, ?_, ?_⟩
      · have hfit : n * i.size + news.length ≤ cur.size := by rw [hl, hcs, ← Nat.add_mul]; exact Nat.mul_le_mul_right _ hroom
        have hst := run_storeCells_at P g (n * i.size) e news 0 cur w hheap (by simpa using hfit) h1
        simp only [Nat.add_zero] at hst
        rcases htu with ⟨e', rfl⟩ | rfl <;> simp [Builtin.append_, run_underlying ht, run_underlying hu, sizeOf, typeInfo, hi, hlen, hroom, hfw, Addr.add_lit, hst]
      · refine ⟨by rw [List.length_append, hxl, hl, Nat.add_mul], .inr ⟨g, cap, _, rfl, hBg, setRow_heap w g cur _ e _ hheap, hroom, hcap, ?_, ?_⟩⟩
        · have h2 := Nat.mul_le_mul_right i.size hroom
          rw [Nat.add_mul] at h2
          simp only [List.size_toArray, List.length_append, List.length_take, List.length_drop, Array.length_toList, hl, hcs]
          omega
        · have hlt : (cur.toList.take (n * i.size)).length = n * i.size := by rw [htake, hxl]
          rw [Nat.add_mul, ← hl]
          rw [List.take_append_of_le_length (by rw [List.length_append, hlt]; omega)]
          rw [List.take_of_length_le (by rw [List.length_append, hlt]; omega), htake]
      · refine ⟨⟨rfl, rfl, rfl, by simp, fun k _ hk => setRow_other w g k _ (fun e' => hk (by simp [Value.ownBlock, e']))⟩, .inl rfl⟩
    · have hc := grownCap_ge w (n + m) cap e
      have holds : ∀ j v, xs[j]? = some v → w.cell? ((⟨g, 0, none⟩ : Addr).add j) = some v := by
        intro j v hv
        rw [Addr.add_lit, cell_of_row w g (0 + j) cur e (0, 0) hheap]
        rw [← htake, List.getElem?_take] at hv
        split at hv
        · simpa using hv
        · cases hv
      refine ⟨.slice (some ⟨w.heap.size, 0, none⟩) (n + m) (grownCap w (n + m) cap e), w.drew.alloc (.cells (xs.toArray ++ news.toArray ++ Builtin.zeroCells z.cells (grownCap w (n + m) cap e - (n + m))) e), ?_, ?_, ?_⟩
      · have h48 : ¬ (281474976710656 < Builtin.nextslicecap (n + m) cap * i.bytes) := by
          have := growslice_fits (need := n + m) (old := cap) (bytes := i.bytes) (by omega) (by simpa [lim] using hb)
          omega
        have h63' : ¬ (9223372036854775807 < (n : Int) + (m : Int)) := by omega
        have hfo := run_firstCells_some (P := P) w.drew i.size n ⟨g, 0, none⟩ n cap xs hxl (by simpa using holds)
        rcases htu with ⟨e', rfl⟩ | rfl <;> simp [Builtin.append_, run_underlying ht, run_underlying hu, sizeOf, typeInfo, zeroValue, hi, hz, hlen, hroom, h63', h48, Question.forced, hfo, hfd, newRow, grownCap]
        all_goals
          congr 2
          apply Array.ext'
          simp [List.append_assoc]
      · refine ⟨by rw [List.length_append, hxl, hl, Nat.add_mul], .inr ⟨w.heap.size, grownCap w (n + m) cap e, _, rfl, hB, heap_alloc_new w.drew _, by omega, grownCap_le_maxLen w _ _ e (by omega), ?_, ?_⟩⟩
        · simp only [Array.size_append, List.size_toArray, hl, hxl, size_zeroCells, hzs, ← Nat.add_mul]
          congr 1; omega
        · simp only [Array.toList_append, Nat.add_mul]
          rw [← hxl, ← hl, ← List.length_append]
          exact List.take_left
      · refine ⟨⟨rfl, rfl, rfl, by simp, fun k hk _ => Below.heap_alloc w.drew _ k hk⟩, .inr ?_⟩
        intro g' hg'
        simp [Value.ownBlock] at hg'
        omega
end Go.Proofs.Ytaoecdeljfdmeaa
