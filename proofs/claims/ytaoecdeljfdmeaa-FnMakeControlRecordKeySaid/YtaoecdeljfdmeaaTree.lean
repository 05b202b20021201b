/- The reference's data in memory: trees, tags, fields. No program in sight. -/
import Derived.Test.YtaoecdeljfdmeaaRep
import Derived.Test.YtaoecdeljfdmeaaPure
import Derived.Test.YtaoecdeljfdmeaaMem
namespace Go.Proofs.Ytaoecdeljfdmeaa
open Go Go.RowKit

/-- Blocks below B. -/
def Lo (B : Nat) : Nat → Prop := fun r => r < B
theorem Rep.below {B B' : Nat} {w w' : World} {d : D} {cs : List Value} (h : Rep (Lo B) w d cs) (hb : Below B w w') (hB : B ≤ B') : Rep (Lo B') w' d cs :=
  Rep.mono (fun b hb' => ⟨Nat.lt_of_lt_of_le hb' hB, hb.block b hb'⟩) d cs h
theorem Reps.below {B B' : Nat} {w w' : World} {d : List D} {cs : List Value} (h : Reps (Lo B) w d cs) (hb : Below B w w') (hB : B ≤ B') : Reps (Lo B') w' d cs :=
  Reps.mono (fun b hb' => ⟨Nat.lt_of_lt_of_le hb' hB, hb.block b hb'⟩) d cs h

def tagD (kv : Nat × List UInt8) : D := .agg [.lit (.int .u32 kv.1), bytesD kv.2]
mutual
def treeD : Tree → D
  | .mk n s nul l u => .agg [.lit (.int .i64 n), bytesD s, .lit (.bool nul), .sq (treeDs l), .sq (u.map tagD)]
def treeDs : List Tree → List D
  | [] => []
  | t :: r => treeD t :: treeDs r
end
theorem treeDs_map (l : List Tree) : treeDs l = l.map treeD := by induction l <;> simp_all [treeDs]
mutual
def fldD : Fld → D
  | .mk a b c d e f g sub => .agg [.lit (.int .i64 a), .lit (.int .i64 b), .lit (.int .i64 c), .lit (.int .i64 d), .lit (.int .i64 e), .lit (.int .i64 f), .lit (.int .i64 g), .sq (fldDs sub)]
def fldDs : List Fld → List D
  | [] => []
  | t :: r => fldD t :: fldDs r
end
theorem fldDs_map (l : List Fld) : fldDs l = l.map fldD := by induction l <;> simp_all [fldDs]
theorem treeD_width (t : Tree) : (treeD t).width = 5 := by cases t; simp [treeD, bytesD, D.width, D.widths]
theorem tagD_width (t : Nat × List UInt8) : (tagD t).width = 2 := by simp [tagD, bytesD, D.width, D.widths]
theorem fldD_width (t : Fld) : (fldD t).width = 8 := by cases t; simp [fldD, D.width, D.widths]

/-- A slice value that says ds. -/
def Sq (B : Nat) (w : World) (v : Value) (ds : List D) : Prop := Rep (Lo B) w (.sq ds) [v]
theorem Sq.shape {B : Nat} {w : World} {v : Value} {ds : List D} (h : Sq B w v ds) : ∃ a c, v = .slice a ds.length c ∧ ds.length ≤ c := by
  simp only [Sq, Rep] at h
  obtain ⟨a, c, e, hle, _⟩ := h
  exact ⟨a, c, by simpa using e, hle⟩
/-- Its first m elements. -/
theorem Sq.take {B : Nat} {w : World} {a : Option Addr} {c n m : Nat} {ds : List D} (h : Sq B w (.slice a n c) ds) (hm : m ≤ ds.length) : Sq B w (.slice a m c) (ds.take m) := by
  simp only [Sq, Rep] at h ⊢
  obtain ⟨a', c', e, hle, hs⟩ := h
  simp only [List.cons.injEq, Value.slice.injEq, and_true] at e
  obtain ⟨rfl, rfl, rfl⟩ := e
  have hl : (ds.take m).length = m := by simp; omega
  refine ⟨a, c, by rw [hl], by rw [hl]; omega, ?_⟩
  rcases hs with rfl | ⟨b, off, cs', rfl, ho, hc, hd⟩
  · exact .inl (by simp)
  · rw [← List.take_append_drop m ds] at hd
    obtain ⟨c1, c2, rfl, h1, _⟩ := (Reps.app _ _ _).1 hd
    exact .inr ⟨b, off, c1, rfl, ho, hc.left, h1⟩
theorem Sq.get {B : Nat} {w : World} {v : Value} {ds : List D} {sz : Nat} (h : Sq B w v ds) (hw : ∀ d ∈ ds, d.width = sz) {i : Nat} (hi : i < ds.length) :
    ∃ b off c cs, v = .slice (some ⟨b, off, none⟩) ds.length c ∧ b < B ∧ CellsAt w b (off + i * sz) cs ∧ cs.length = sz ∧ Rep (Lo B) w ds[i] cs := by
  simp only [Sq, Rep] at h
  obtain ⟨a, c, e, _, hs⟩ := h
  rcases hs with rfl | ⟨b, off, cs', rfl, ho, hc, hd⟩
  · cases hi
  · obtain ⟨pre, x, post, rfl, hl, hr⟩ := Reps.get ds cs' hd hw i hi
    refine ⟨b, off, c, x, by simpa using e, ho, by rw [← hl]; exact hc.part, ?_, hr⟩
    rw [Rep.len _ _ hr]; exact hw _ (by simp)
theorem Sq.bytes {B : Nat} {w : World} {v : Value} {s : List UInt8} (h : Sq B w v (s.map byteD)) : BytesAt w v s := by
  simp only [Sq, Rep] at h
  obtain ⟨a, c, e, _, hs⟩ := h
  simp only [List.cons.injEq, and_true] at e
  subst e
  rcases hs with h0 | ⟨b, off, cs', rfl, ho, hc, hd⟩
  · simp at h0; subst h0; exact .inl ⟨a, c, rfl, rfl⟩
  · rw [(reps_bytes s cs').1 hd] at hc
    exact .inr ⟨b, off, c, by simp, hc⟩
/-- A tree's cells. -/
theorem tree_cells {B : Nat} {w : World} {t : Tree} {cs : List Value} (h : Rep (Lo B) w (treeD t) cs) :
    ∃ sv lv uv, cs = [.int .i64 t.n, sv, .bool t.nul, lv, uv] ∧ Sq B w sv (t.s.map byteD) ∧ Sq B w lv (t.l.map treeD) ∧ Sq B w uv (t.u.map tagD) := by
  cases t with
  | mk n s nul l u =>
    simp only [treeD, Rep, Reps, bytesD] at h
    obtain ⟨c1, r1, rfl, rfl, c2, r2, rfl, h2, c3, r3, rfl, rfl, c4, r4, rfl, h4, c5, r5, rfl, h5, rfl⟩ := h
    obtain ⟨a2, b2, rfl, h2'⟩ := h2
    obtain ⟨a4, b4, rfl, h4'⟩ := h4
    obtain ⟨a5, b5, rfl, h5'⟩ := h5
    refine ⟨_, _, _, rfl, ?_, ?_, ?_⟩
    · simp only [Sq, Rep]; exact ⟨_, _, rfl, h2'⟩
    · simp only [Sq, Rep, Tree.l, ← treeDs_map]; exact ⟨_, _, rfl, h4'⟩
    · simp only [Sq, Rep]; exact ⟨_, _, rfl, h5'⟩
theorem fld_cells {B : Nat} {w : World} {f : Fld} {cs : List Value} (h : Rep (Lo B) w (fldD f) cs) :
    ∃ sv, cs = [.int .i64 f.kind, .int .i64 f.fr, .int .i64 f.upto, .int .i64 f.nul, .int .i64 f.tag, .int .i64 f.df, .int .i64 f.of, sv] ∧ Sq B w sv (f.sub.map fldD) := by
  cases f with
  | mk a b c d e f g sub =>
    simp only [fldD, Rep, Reps] at h
    obtain ⟨c1, r1, rfl, rfl, c2, r2, rfl, rfl, c3, r3, rfl, rfl, c4, r4, rfl, rfl, c5, r5, rfl, rfl, c6, r6, rfl, rfl, c7, r7, rfl, rfl, c8, r8, rfl, h8, rfl⟩ := h
    obtain ⟨a8, b8, rfl, h8'⟩ := h8
    refine ⟨_, rfl, ?_⟩
    simp only [Sq, Rep, Fld.sub, ← fldDs_map]; exact ⟨_, _, rfl, h8'⟩
theorem tag_cells {B : Nat} {w : World} {t : Nat × List UInt8} {cs : List Value} (h : Rep (Lo B) w (tagD t) cs) :
    ∃ sv, cs = [.int .u32 t.1, sv] ∧ Sq B w sv (t.2.map byteD) := by
  simp only [tagD, Rep, Reps, bytesD] at h
  obtain ⟨c1, r1, rfl, rfl, c2, r2, rfl, h2, rfl⟩ := h
  obtain ⟨a2, b2, rfl, h2'⟩ := h2
  refine ⟨_, rfl, ?_⟩
  simp only [Sq, Rep]; exact ⟨_, _, rfl, h2'⟩
theorem tree_one {B : Nat} {w : World} {t : Tree} {cs : List Value} (h : Rep (Lo B) w (treeD t) cs) : (cs.all fun v => v.oneCell') = true ∧ cs.length = 5 := by
  obtain ⟨sv, lv, uv, rfl, h1, h2, h3⟩ := tree_cells h
  obtain ⟨a, b, rfl, _⟩ := h1.shape
  obtain ⟨c, d, rfl, _⟩ := h2.shape
  obtain ⟨e, f, rfl, _⟩ := h3.shape
  exact ⟨rfl, rfl⟩
theorem fld_one {B : Nat} {w : World} {t : Fld} {cs : List Value} (h : Rep (Lo B) w (fldD t) cs) : (cs.all fun v => v.oneCell') = true ∧ cs.length = 8 := by
  obtain ⟨sv, rfl, h1⟩ := fld_cells h
  obtain ⟨a, b, rfl, _⟩ := h1.shape
  exact ⟨rfl, rfl⟩
theorem tag_one {B : Nat} {w : World} {t : Nat × List UInt8} {cs : List Value} (h : Rep (Lo B) w (tagD t) cs) : (cs.all fun v => v.oneCell') = true ∧ cs.length = 2 := by
  obtain ⟨sv, rfl, h1⟩ := tag_cells h
  obtain ⟨a, b, rfl, _⟩ := h1.shape
  exact ⟨rfl, rfl⟩
theorem Sq.below {B B' : Nat} {w w' : World} {v : Value} {ds : List D} (h : Sq B w v ds) (hb : Below B w w') (hB : B ≤ B') : Sq B' w' v ds := Rep.below h hb hB
theorem tree_none (B : Nat) (w : World) : Rep (Lo B) w (treeD Tree.none) [.int .i64 0, .slice none 0 0, .bool false, .slice none 0 0, .slice none 0 0] := by
  simp only [treeD, Tree.none, Rep, Reps, bytesD, treeDs, List.map_nil, List.length_nil]
  exact ⟨[_], _, rfl, rfl, [_], _, rfl, ⟨none, 0, rfl, by simp, .inl (by simp)⟩, [_], _, rfl, rfl, [_], _, rfl, ⟨none, 0, rfl, by simp, .inl (by simp)⟩, [_], _, rfl, ⟨none, 0, rfl, by simp, .inl (by simp)⟩, rfl⟩
end Go.Proofs.Ytaoecdeljfdmeaa
