/- An argument that is a tree, as the row hands it: what it says, as memory holds it. -/
import Derived.Test.YtaoecdeljfdmeaaCrkLaw
import Derived.ProofKit
import Derived.OpenShut
namespace Go.Proofs.Ytaoecdeljfdmeaa
open Go Go.RowKit Go.ChangeShapes Go.WideShapes Go.ChangeAt

/-- Cells side by side, element by element. -/
theorem row_at {W : World} {a : Addr} {sz len : Nat} {f : Nat → List Value} (hsz : 0 < sz) (hlen : 0 < len)
    (hf : ∀ i, i < len → (f i).length = sz ∧ ∀ j v, (f i)[j]? = some v → W.cell? ((a.add (i * sz)).add j) = some v) :
    ∃ b off, a = ⟨b, off, none⟩ ∧ b < W.heap.size ∧ CellsAt W b off ((List.range len).flatMap f) := by
  have h0 := hf 0 hlen
  obtain ⟨b, off, spot⟩ := a
  have hx : ∃ v, (f 0)[0]? = some v := by
    cases hv : (f 0)[0]? with
    | none => rw [List.getElem?_eq_none_iff] at hv; omega
    | some v => exact ⟨v, rfl⟩
  obtain ⟨v0, hv0⟩ := hx
  have hc0 := h0.2 0 v0 hv0
  have hspot : spot = none := by simpa [Addr.add] using World.cell?_spot hc0
  subst hspot
  simp only [Nat.zero_mul] at hc0
  have hadd : ∀ n m, (Addr.add (Addr.add ⟨b, off, none⟩ n) m) = ⟨b, off + n + m, none⟩ := fun n m => by rw [add_plain ⟨b, off, none⟩ n rfl]; rw [add_plain _ _ rfl]
  rw [hadd] at hc0
  -- the block itself
  have hobj : ∃ arr e fz, W.heap[b]? = some (.cells arr e fz) := by
    unfold World.cell? at hc0
    split at hc0
    · rename_i c e fz hh; exact ⟨c, e, fz, hh⟩
    · cases hc0
  obtain ⟨arr, e, fz, hh⟩ := hobj
  have hall : ∀ i j v, i < len → (f i)[j]? = some v → arr[off + i * sz + j]? = some v := by
    intro i j v hi hv
    have := (hf i hi).2 j v hv
    rw [hadd] at this
    simpa [World.cell?, hh] using this
  have hflat : ∀ n, n ≤ len → ((List.range n).flatMap f).length = n * sz ∧ ∀ q v, ((List.range n).flatMap f)[q]? = some v → arr[off + q]? = some v := by
    intro n
    induction n with
    | zero => intro _; simp
    | succ n ih =>
      intro hn
      obtain ⟨hl, hq⟩ := ih (by omega)
      rw [List.range_succ, List.flatMap_append]
      simp only [List.flatMap_cons, List.flatMap_nil, List.append_nil]
      refine ⟨by rw [List.length_append, hl, (hf n (by omega)).1, Nat.succ_mul], fun q v hv => ?_⟩
      by_cases hlt : q < n * sz
      · rw [List.getElem?_append_left (by omega)] at hv; exact hq q v hv
      · rw [List.getElem?_append_right (by omega), hl] at hv
        have := hall n (q - n * sz) v (by omega) hv
        rwa [show off + n * sz + (q - n * sz) = off + q from by omega] at this
  obtain ⟨hl, hq⟩ := hflat len (Nat.le_refl _)
  refine ⟨b, off, rfl, (Array.getElem?_eq_some_iff.1 hh).1, arr, e, fz, hh, ?_, hq⟩
  have hpos : 0 < len * sz := Nat.mul_pos hlen hsz
  have hlast : ∃ v, ((List.range len).flatMap f)[len * sz - 1]? = some v := by
    cases hv : ((List.range len).flatMap f)[len * sz - 1]? with
    | none => rw [List.getElem?_eq_none_iff] at hv; omega
    | some v => exact ⟨v, rfl⟩
  obtain ⟨v, hv⟩ := hlast
  have := (Array.getElem?_eq_some_iff.1 (hq _ v hv)).1
  rw [hl]; omega

section
variable {H : Type} {enc : TypeId × Value → H} {P : Program} {W : World} {base : Nat} {spare : Nat → Bool} {held : Bool}
/-- A slice, its elements opened by 'hel'. -/
theorem open_sq {α : Type} {t e sz : Nat} (ht : P.underlying t = some (.slice e)) (hc : P.cellsOf e = sz) (hsz : 0 < sz) (g : α → D) (φ : α → Prop) {fuel : Nat} {cs : List Value} {x : DataW H × List MemPlace}
    (h : DataW.trod enc P W base spare held fuel t cs = some x)
    (hel : ∀ n cs' x', n < fuel → DataW.trod enc P W base spare held n e cs' = some x' → ∃ y : α, Rep (Lo W.heap.size) W (g y) cs' ∧ φ y) :
    ∃ (l : List α) (v : Value), cs = [v] ∧ l.length ≤ maxLen ∧ Sq W.heap.size W v (l.map g) ∧ ∀ y ∈ l, φ y := by
  rcases DataW.trod_slice ht h with ⟨rfl, _⟩ | ⟨a, len, cap, elems, rest, n, hfu, rfl, _, hb, hle, hcap, hlen, hels, _, _⟩
  · exact ⟨[], _, rfl, by simp, rep_nil _ _, by simp⟩
  · have hone : ∀ i : Fin len, ∃ p : List Value × α, W.cells? base (a.add (i.1 * sz)) sz = some p.1 ∧ Rep (Lo W.heap.size) W (g p.2) p.1 ∧ φ p.2 := by
      intro ⟨i, hi⟩
      have h1 := hels i hi
      rw [List.getElem?_eq_getElem (by omega), hc] at h1
      obtain ⟨cs', h2, h3⟩ := Option.bind_eq_some_iff.1 h1
      obtain ⟨y, hy, hφ⟩ := hel n cs' _ (by omega) h3
      exact ⟨(cs', y), h2, hy, hφ⟩
    let F : Fin len → List Value × α := fun i => Classical.choose (hone i)
    have hF : ∀ i, W.cells? base (a.add (i.1 * sz)) sz = some (F i).1 ∧ Rep (Lo W.heap.size) W (g (F i).2) (F i).1 ∧ φ (F i).2 := fun i => Classical.choose_spec (hone i)
    let f : Nat → List Value := fun i => if hi : i < len then (F ⟨i, hi⟩).1 else []
    let l : List α := List.ofFn fun i => (F i).2
    have hll : l.length = len := by simp [l]
    have hφ : ∀ y ∈ l, φ y := by
      intro y hy
      obtain ⟨i, hi⟩ := (List.mem_ofFn).1 hy
      rw [← hi]; exact (hF i).2.2
    refine ⟨l, _, rfl, by rw [hll]; omega, ?_, hφ⟩
    simp only [Sq, Rep]
    refine ⟨some a, cap, by simp [hll], by simpa [hll] using hle, ?_⟩
    by_cases hpos : 0 < len
    · have hfi : ∀ i, i < len → (f i).length = sz ∧ ∀ j v, (f i)[j]? = some v → W.cell? ((a.add (i * sz)).add j) = some v := by
        intro i hi
        have h1 := (hF ⟨i, hi⟩).1
        have h2 := World.cells?_some h1
        simp only [f, dif_pos hi]
        refine ⟨h2.2.1, fun j v hj => ?_⟩
        have := h2.2.2 j (by have := (List.getElem?_eq_some_iff.1 hj).1; omega)
        rw [this]; exact hj
      obtain ⟨b, off, rfl, hlt, hcells⟩ := row_at hsz hpos hfi
      refine .inr ⟨b, off, _, rfl, hlt, hcells, ?_⟩
      have hreps : ∀ n, n ≤ len → Reps (Lo W.heap.size) W ((l.take n).map g) ((List.range n).flatMap f) := by
        intro n
        induction n with
        | zero => intro _; simp [Reps]
        | succ n ih =>
          intro hn
          have hnl : n < l.length := by omega
          rw [List.take_succ_eq_append_getElem hnl, List.map_append, List.range_succ, List.flatMap_append]
          refine (Reps.app _ _ _).2 ⟨_, _, rfl, ih (by omega), ?_⟩
          simp only [List.map_cons, List.map_nil, List.flatMap_cons, List.flatMap_nil, List.append_nil, Reps]
          refine ⟨f n, [], by simp, ?_, rfl⟩
          have hln : l[n] = (F ⟨n, by omega⟩).2 := by simp [l]
          have hfn : f n = (F ⟨n, by omega⟩).1 := by simp only [f]; rw [dif_pos (by omega)]
          rw [hln, hfn]; exact (hF ⟨n, by omega⟩).2.1
      have := hreps len (Nat.le_refl _)
      rwa [List.take_of_length_le (by omega)] at this
    · have : l = [] := List.length_eq_zero_iff.1 (by omega)
      left; rw [this]; rfl
end
end Go.Proofs.Ytaoecdeljfdmeaa
