/- Data in memory: what a row of cells says, told as a tree; a block number set 'ok' says where it may lie. No program in sight. -/
import Derived.Test.YtaoecdeljfdmeaaBase
namespace Go.Proofs.Ytaoecdeljfdmeaa
open Go Go.RowKit

/-- What cells say. -/
inductive D where
  /-- one cell -/
  | lit (v : Value)
  /-- a struct or an array: its parts' cells one behind the other -/
  | agg (ds : List D)
  /-- a pointer to a block that holds this alone -/
  | ptr (d : D)
  /-- a slice; nil or not -/
  | sl (isNil : Bool) (ds : List D)
  /-- a slice; where it is empty it may be nil -/
  | sq (ds : List D)
  /-- a map from 32-bit numbers; nil or not; keys rising -/
  | mp (kvs : List (Nat × D))

/-- The cells cs lie from place p on. -/
def CellsAt (w : World) (b off : Nat) (cs : List Value) : Prop :=
  ∃ arr e fz, w.heap[b]? = some (.cells arr e fz) ∧ off + cs.length ≤ arr.size ∧ ∀ i v, cs[i]? = some v → arr[off + i]? = some v

theorem CellsAt.cell {w : World} {b off : Nat} {cs : List Value} (h : CellsAt w b off cs) {i : Nat} {v : Value} (hi : cs[i]? = some v) : w.cell? ⟨b, off + i, none⟩ = some v := by
  obtain ⟨arr, e, fz, hb, _, hc⟩ := h
  simp [World.cell?, hb, hc i v hi]
theorem CellsAt.of_block {w w' : World} {b off : Nat} {cs : List Value} (h : CellsAt w b off cs) (hb : w'.heap[b]? = w.heap[b]?) : CellsAt w' b off cs := by
  obtain ⟨arr, e, fz, h1, h2, h3⟩ := h
  exact ⟨arr, e, fz, hb.trans h1, h2, h3⟩
theorem CellsAt.lt {w : World} {b off : Nat} {cs : List Value} (h : CellsAt w b off cs) : b < w.heap.size := by
  obtain ⟨arr, e, fz, h1, _⟩ := h
  exact (Array.getElem?_eq_some_iff.1 h1).1
theorem CellsAt.left {w : World} {b off : Nat} {cs ds : List Value} (h : CellsAt w b off (cs ++ ds)) : CellsAt w b off cs := by
  obtain ⟨arr, e, fz, h1, h2, h3⟩ := h
  refine ⟨arr, e, fz, h1, by simp at h2; omega, fun i v hv => h3 i v ?_⟩
  rw [List.getElem?_append_left (List.getElem?_eq_some_iff.1 hv).1]; exact hv
theorem CellsAt.right {w : World} {b off : Nat} {cs ds : List Value} (h : CellsAt w b off (cs ++ ds)) : CellsAt w b (off + cs.length) ds := by
  obtain ⟨arr, e, fz, h1, h2, h3⟩ := h
  refine ⟨arr, e, fz, h1, by simp at h2; omega, fun i v hv => ?_⟩
  have := h3 (cs.length + i) v (by rw [List.getElem?_append_right (by omega)]; simpa using hv)
  rwa [← Nat.add_assoc] at this

mutual
/-- The cells cs say d, and all that they lead to lies in blocks of 'ok'. -/
def Rep (ok : Nat → Prop) (w : World) : D → List Value → Prop
  | .lit v, cs => cs = [v]
  | .agg ds, cs => Reps ok w ds cs
  | .ptr d, cs => ∃ b cs', cs = [.pointer (some ⟨b, 0, none⟩)] ∧ ok b ∧ CellsAt w b 0 cs' ∧ Rep ok w d cs'
  | .sl isNil ds, cs => ∃ a c, cs = [.slice a ds.length c] ∧ ds.length ≤ c ∧ (isNil = true → a = none ∧ ds = [] ∧ c = 0) ∧ (isNil = false → ∃ b off cs', a = some ⟨b, off, none⟩ ∧ ok b ∧ CellsAt w b off cs' ∧ Reps ok w ds cs')
  | .sq ds, cs => ∃ a c, cs = [.slice a ds.length c] ∧ ds.length ≤ c ∧ ((ds = []) ∨ ∃ b off cs', a = some ⟨b, off, none⟩ ∧ ok b ∧ CellsAt w b off cs' ∧ Reps ok w ds cs')
  | .mp kvs, cs => (cs = [.map none] ∧ kvs = []) ∨ ∃ r es clock, cs = [.map (some r)] ∧ ok r ∧ w.heap[r]? = some (.map es clock) ∧ es.size = kvs.length ∧ RepKs ok w es kvs
def Reps (ok : Nat → Prop) (w : World) : List D → List Value → Prop
  | [], cs => cs = []
  | d :: ds, cs => ∃ c1 c2, cs = c1 ++ c2 ∧ Rep ok w d c1 ∧ Reps ok w ds c2
def RepKs (ok : Nat → Prop) (w : World) (es : Array MapEntry) : List (Nat × D) → Prop
  | [] => True
  | kv :: kvs => (∃ e ∈ es, e.key = .int .u32 kv.1 ∧ Rep ok w kv.2 [e.val]) ∧ RepKs ok w es kvs
end

mutual
/-- What is said stays said while no block of 'ok' turns. -/
theorem Rep.mono {ok ok' : Nat → Prop} {w w' : World} (h : ∀ b, ok b → ok' b ∧ w'.heap[b]? = w.heap[b]?) : ∀ (d : D) (cs : List Value), Rep ok w d cs → Rep ok' w' d cs
  | .lit v, cs, hr => by simpa only [Rep] using hr
  | .agg ds, cs, hr => by
    simp only [Rep] at hr ⊢
    exact Reps.mono h ds cs hr
  | .ptr d, cs, hr => by
    simp only [Rep] at hr ⊢
    obtain ⟨b, cs', e, ho, hc, hd⟩ := hr
    exact ⟨b, cs', e, (h b ho).1, hc.of_block (h b ho).2, Rep.mono h d cs' hd⟩
  | .sl isNil ds, cs, hr => by
    simp only [Rep] at hr ⊢
    obtain ⟨a, c, e, hle, hn, hs⟩ := hr
    refine ⟨a, c, e, hle, hn, fun hf => ?_⟩
    obtain ⟨b, off, cs', ha, ho, hc, hd⟩ := hs hf
    exact ⟨b, off, cs', ha, (h b ho).1, hc.of_block (h b ho).2, Reps.mono h ds cs' hd⟩
  | .sq ds, cs, hr => by
    simp only [Rep] at hr ⊢
    obtain ⟨a, c, e, hle, hs⟩ := hr
    refine ⟨a, c, e, hle, ?_⟩
    rcases hs with hs | ⟨b, off, cs', ha, ho, hc, hd⟩
    · exact .inl hs
    · exact .inr ⟨b, off, cs', ha, (h b ho).1, hc.of_block (h b ho).2, Reps.mono h ds cs' hd⟩
  | .mp kvs, cs, hr => by
    simp only [Rep] at hr ⊢
    rcases hr with hr | ⟨r, es, clock, e, ho, hm, hs, hk⟩
    · exact .inl hr
    · exact .inr ⟨r, es, clock, e, (h r ho).1, (h r ho).2.trans hm, hs, RepKs.mono h es kvs hk⟩
theorem Reps.mono {ok ok' : Nat → Prop} {w w' : World} (h : ∀ b, ok b → ok' b ∧ w'.heap[b]? = w.heap[b]?) : ∀ (ds : List D) (cs : List Value), Reps ok w ds cs → Reps ok' w' ds cs
  | [], cs, hr => by simpa only [Reps] using hr
  | d :: ds, cs, hr => by
    simp only [Reps] at hr ⊢
    obtain ⟨c1, c2, e, h1, h2⟩ := hr
    exact ⟨c1, c2, e, Rep.mono h d c1 h1, Reps.mono h ds c2 h2⟩
theorem RepKs.mono {ok ok' : Nat → Prop} {w w' : World} (h : ∀ b, ok b → ok' b ∧ w'.heap[b]? = w.heap[b]?) (es : Array MapEntry) : ∀ (kvs : List (Nat × D)), RepKs ok w es kvs → RepKs ok' w' es kvs
  | [], _ => by simp only [RepKs]
  | kv :: kvs, hr => by
    simp only [RepKs] at hr ⊢
    obtain ⟨⟨e, he, hk, hd⟩, h2⟩ := hr
    exact ⟨⟨e, he, hk, Rep.mono h kv.2 [e.val] hd⟩, RepKs.mono h es kvs h2⟩
end

mutual
/-- How many cells it takes. -/
def D.width : D → Nat
  | .agg ds => D.widths ds
  | _ => 1
def D.widths : List D → Nat
  | [] => 0
  | d :: ds => d.width + D.widths ds
end
mutual
theorem Rep.len {ok : Nat → Prop} {w : World} : ∀ (d : D) (cs : List Value), Rep ok w d cs → cs.length = d.width
  | .lit v, cs, h => by simp only [Rep] at h; subst h; simp [D.width]
  | .agg ds, cs, h => by simp only [Rep] at h; simpa only [D.width] using Reps.len ds cs h
  | .ptr d, cs, h => by simp only [Rep] at h; obtain ⟨b, c, rfl, _⟩ := h; simp [D.width]
  | .sl n ds, cs, h => by simp only [Rep] at h; obtain ⟨b, c, rfl, _⟩ := h; simp [D.width]
  | .sq ds, cs, h => by simp only [Rep] at h; obtain ⟨b, c, rfl, _⟩ := h; simp [D.width]
  | .mp kvs, cs, h => by
    simp only [Rep] at h
    rcases h with ⟨rfl, _⟩ | ⟨r, es, clock, rfl, _⟩ <;> simp [D.width]
theorem Reps.len {ok : Nat → Prop} {w : World} : ∀ (ds : List D) (cs : List Value), Reps ok w ds cs → cs.length = D.widths ds
  | [], cs, h => by simp only [Reps] at h; subst h; simp [D.widths]
  | d :: ds, cs, h => by
    simp only [Reps] at h
    obtain ⟨c1, c2, rfl, h1, h2⟩ := h
    simp only [List.length_append, D.widths, Rep.len d c1 h1, Reps.len ds c2 h2]
end
/-- The element i of a row whose elements all take sz cells. -/
theorem Reps.get {ok : Nat → Prop} {w : World} {sz : Nat} : ∀ (ds : List D) (cs : List Value), Reps ok w ds cs → (∀ d ∈ ds, d.width = sz) → ∀ i (hi : i < ds.length), ∃ pre c post, cs = pre ++ (c ++ post) ∧ pre.length = i * sz ∧ Rep ok w ds[i] c
  | [], _, _, _, i, hi => by cases hi
  | d :: ds, cs, h, hw, i, hi => by
    simp only [Reps] at h
    obtain ⟨c1, c2, rfl, h1, h2⟩ := h
    cases i with
    | zero => exact ⟨[], c1, c2, rfl, by simp, h1⟩
    | succ i =>
      obtain ⟨pre, c, post, rfl, hl, hr⟩ := Reps.get ds c2 h2 (fun d hd => hw d (by simp [hd])) i (by simpa using hi)
      refine ⟨c1 ++ pre, c, post, by simp, ?_, by simpa using hr⟩
      rw [List.length_append, hl, Rep.len d c1 h1, hw d (by simp), Nat.add_mul]; omega
theorem CellsAt.part {w : World} {b off : Nat} {pre c post : List Value} (h : CellsAt w b off (pre ++ (c ++ post))) : CellsAt w b (off + pre.length) c := h.right.left

def byteD (c : UInt8) : D := .lit (.int .u8 c.toNat)
def bytesD (s : List UInt8) : D := .sq (s.map byteD)
theorem reps_bytes {ok : Nat → Prop} {w : World} : ∀ (s : List UInt8) (cs : List Value), Reps ok w (s.map byteD) cs ↔ cs = bv s
  | [], cs => by simp [Reps, bv]
  | c :: s, cs => by
    simp only [List.map_cons, Reps, byteD, Rep]
    constructor
    · rintro ⟨c1, c2, rfl, rfl, h⟩
      rw [(reps_bytes s c2).1 h]; rfl
    · intro h
      exact ⟨[_], bv s, by rw [h]; rfl, rfl, (reps_bytes s _).2 rfl⟩
theorem Reps.app {ok : Nat → Prop} {w : World} : ∀ (ds es : List D) (cs : List Value), Reps ok w (ds ++ es) cs ↔ ∃ c1 c2, cs = c1 ++ c2 ∧ Reps ok w ds c1 ∧ Reps ok w es c2
  | [], es, cs => by
    simp only [List.nil_append, Reps]
    exact ⟨fun h => ⟨[], cs, rfl, rfl, h⟩, fun ⟨_, _, h, h1, h2⟩ => by subst h1; subst h; exact h2⟩
  | d :: ds, es, cs => by
    simp only [List.cons_append, Reps]
    constructor
    · rintro ⟨c1, c2, rfl, h1, h2⟩
      obtain ⟨c3, c4, rfl, h3, h4⟩ := (Reps.app ds es c2).1 h2
      exact ⟨c1 ++ c3, c4, by simp, ⟨c1, c3, rfl, h1, h3⟩, h4⟩
    · rintro ⟨_, c4, rfl, ⟨c1, c3, rfl, h1, h3⟩, h4⟩
      exact ⟨c1, c3 ++ c4, by simp, h1, (Reps.app ds es _).2 ⟨c3, c4, rfl, h3, h4⟩⟩
end Go.Proofs.Ytaoecdeljfdmeaa
