/- What the walks ask of trees and fields, as plain facts. No Go in sight. -/
import Derived.Test.YtaoecdeljfdmeaaPure
namespace Go.Proofs.Ytaoecdeljfdmeaa

mutual
/-- Lengths and tags within what a machine holds. -/
def Tree.ok : Tree → Prop
  | .mk _ s _ l u => s.length ≤ 9223372036854775807 ∧ (∀ kv ∈ u, kv.1 < 4294967296) ∧ Tree.oks l
def Tree.oks : List Tree → Prop
  | [] => True
  | t :: l => t.ok ∧ Tree.oks l
end
mutual
def Fld.okb : Fld → Bool
  | .mk _ _ _ _ tag _ of sub => decide (tag < 2147483647) && decide (of ≠ 11) && Nat.ble sub.length 1000 && Fld.oksb sub
def Fld.oksb : List Fld → Bool
  | [] => true
  | f :: l => f.okb && Fld.oksb l
end
theorem Tree.oks_mem : ∀ {l : List Tree}, Tree.oks l → ∀ t ∈ l, t.ok
  | [], _, t, h => by cases h
  | x :: l, h, t, ht => by
    simp only [Tree.oks] at h
    rcases List.mem_cons.1 ht with rfl | h1
    · exact h.1
    · exact Tree.oks_mem h.2 t h1
theorem Tree.ok_none : Tree.none.ok := by simp [Tree.none, Tree.ok, Tree.oks]
theorem Tree.ok.at {t : Tree} (h : t.ok) (i : Nat) : (att t i).ok := by
  cases t with
  | mk n s nul l u =>
    simp only [Tree.ok] at h
    unfold att
    by_cases hi : i < l.length
    · have : (Tree.mk n s nul l u).l.getD i Tree.none = l[i] := by simp [Tree.l, hi]
      rw [this]; exact Tree.oks_mem h.2.2 _ (List.getElem_mem _)
    · have : (Tree.mk n s nul l u).l.getD i Tree.none = Tree.none := by simp [Tree.l, List.getD, List.getElem?_eq_none (by omega : l.length ≤ i)]
      rw [this]; exact Tree.ok_none
theorem Tree.ok.s {t : Tree} (h : t.ok) : t.s.length ≤ 9223372036854775807 := by cases t; simp only [Tree.ok] at h; exact h.1
theorem Tree.ok.u {t : Tree} (h : t.ok) : ∀ kv ∈ t.u, kv.1 < 4294967296 := by cases t; simp only [Tree.ok] at h; exact h.2.1
theorem Tree.ok.l {t : Tree} (h : t.ok) : ∀ x ∈ t.l, x.ok := by cases t; simp only [Tree.ok] at h; exact Tree.oks_mem h.2.2
mutual
/-- Lists that are not long. -/
def Tree.small : Tree → Prop
  | .mk _ _ _ l u => (l.length ≤ 1000000000 ∧ u.length ≤ 1000000000) ∧ Tree.smalls l
def Tree.smalls : List Tree → Prop
  | [] => True
  | t :: l => t.small ∧ Tree.smalls l
end
theorem Tree.smalls_mem : ∀ {l : List Tree}, Tree.smalls l → ∀ t ∈ l, t.small
  | [], _, t, h => by cases h
  | x :: l, h, t, ht => by
    simp only [Tree.smalls] at h
    rcases List.mem_cons.1 ht with rfl | h1
    · exact h.1
    · exact Tree.smalls_mem h.2 t h1
theorem Tree.small.lens {t : Tree} (h : t.small) : t.l.length ≤ 1000000000 ∧ t.u.length ≤ 1000000000 := by cases t; simp only [Tree.small] at h; exact h.1
theorem Tree.small.l {t : Tree} (h : t.small) : ∀ x ∈ t.l, x.small := by cases t; simp only [Tree.small] at h; exact Tree.smalls_mem h.2
theorem Fld.oksb_mem : ∀ {l : List Fld}, Fld.oksb l = true → ∀ f ∈ l, f.okb = true
  | [], _, t, h => by cases h
  | x :: l, h, t, ht => by
    simp only [Fld.oksb, Bool.and_eq_true] at h
    rcases List.mem_cons.1 ht with rfl | h1
    · exact h.1
    · exact Fld.oksb_mem h.2 t h1
theorem Fld.okb_tag {f : Fld} (h : f.okb = true) : f.tag < 2147483647 := by
  cases f; simp only [Fld.okb, Bool.and_eq_true, decide_eq_true_eq] at h; exact h.1.1.1
theorem Fld.okb_of {f : Fld} (h : f.okb = true) : f.of ≠ 11 := by
  cases f; simp only [Fld.okb, Bool.and_eq_true, decide_eq_true_eq] at h; exact h.1.1.2
theorem Fld.okb_sub {f : Fld} (h : f.okb = true) : Fld.oksb f.sub = true ∧ f.sub.length ≤ 1000 := by
  cases f; simp only [Fld.okb, Bool.and_eq_true, decide_eq_true_eq] at h; exact ⟨h.2, Nat.le_of_ble_eq_true h.1.2⟩
/-- Fields that the walks speak of. -/
def fsok (fs : List Fld) : Bool := Fld.oksb fs && Nat.ble fs.length 1000
theorem fsok.sub {f : Fld} (h : f.okb = true) : fsok f.sub = true := by
  have := Fld.okb_sub h
  simp only [fsok, Bool.and_eq_true]
  exact ⟨this.1, Nat.ble_eq_true_of_le this.2⟩
theorem fsok.mem {fs : List Fld} (h : fsok fs = true) : ∀ f ∈ fs, f.okb = true := by
  simp only [fsok, Bool.and_eq_true] at h; exact Fld.oksb_mem h.1
theorem fsok.len {fs : List Fld} (h : fsok fs = true) : fs.length ≤ 1000 := by
  simp only [fsok, Bool.and_eq_true] at h; exact Nat.le_of_ble_eq_true h.2
theorem fsok.tag {fs : List Fld} (h : fsok fs = true) : ∀ f ∈ fs, f.tag < 2147483647 := fun f hf => Fld.okb_tag (fsok.mem h f hf)
end Go.Proofs.Ytaoecdeljfdmeaa
