/- What a part says as far as it can be set: as a plain function. No Go in sight. -/
import Derived.Test.YtaoecdeljfdmeaaPure
namespace Go.Proofs.Ytaoecdeljfdmeaa

def others (fs : List Fld) (u : List (Nat × List UInt8)) : List (Nat × List UInt8) := (unknown fs u).map fun kv => (kv.1, whole kv.2)
def Tree.withNull (b : Bool) : Tree → Tree | .mk n s _ l u => .mk n s b l u
/-- What is set of a value of a kind that is no list; p: of a part. -/
def fitVal (kind : Int) (null : Bool) (p : Tree → Tree) (t : Tree) : Tree :=
  if kind = 8 ∨ kind = 9 then .mk 0 (whole t.s) null [] []
  else if kind = 10 then (p t).withNull null
  else .mk t.n t.s false [] []
mutual
def fitF (ver : Int) : Fld → Tree → Tree
  | .mk kind fr upto nul tag df of sub, t =>
    let p : Tree → Tree := fun x => .mk 0 [] false (fitL ver sub 0 x) (others sub x.u)
    let null := (Fld.mk kind fr upto nul tag df of sub).null ver t
    if kind = 11 then .mk 0 [] (null || (decide (0 ≤ tag) && t.l.isEmpty)) ((things t.l).map (fitVal of false p)) []
    else fitVal kind null p t
def fitL (ver : Int) : List Fld → Nat → Tree → List Tree
  | [], _, _ => []
  | f :: fs, i, t => fitF ver f (att t i) :: fitL ver fs (i + 1) t
end
def fitP (ver : Int) (fs : List Fld) (t : Tree) : Tree := .mk 0 [] false (fitL ver fs 0 t) (others fs t.u)
theorem fitF_eq (ver : Int) (f : Fld) (t : Tree) : fitF ver f t =
    if f.kind = 11 then .mk 0 [] (f.null ver t || (decide (0 ≤ f.tag) && t.l.isEmpty)) ((things t.l).map (fitVal f.of false (fitP ver f.sub))) []
    else fitVal f.kind (f.null ver t) (fitP ver f.sub) t := by
  cases f
  simp only [fitF, Fld.kind, Fld.tag, Fld.of, Fld.sub]
  rfl
theorem fitL_length (ver : Int) : ∀ (fs : List Fld) (i : Nat) (t : Tree), (fitL ver fs i t).length = fs.length
  | [], _, _ => rfl
  | f :: fs, i, t => by simp only [fitL, List.length_cons, fitL_length ver fs (i + 1) t]
theorem fitL_get (ver : Int) : ∀ (fs : List Fld) (j : Nat) (t : Tree) (i : Nat) (h : i < fs.length), (fitL ver fs j t)[i]'(by rw [fitL_length]; exact h) = fitF ver fs[i] (att t (j + i))
  | f :: fs, j, t, 0, _ => by simp only [fitL, List.getElem_cons_zero, Nat.add_zero]
  | f :: fs, j, t, i + 1, h => by
    simp only [fitL, List.getElem_cons_succ]
    rw [fitL_get ver fs (j + 1) t i (by simpa using h)]
    congr 2; omega
theorem fitL_take (ver : Int) (fs : List Fld) (t : Tree) {i : Nat} (h : i < fs.length) : (fitL ver fs 0 t).take (i + 1) = (fitL ver fs 0 t).take i ++ [fitF ver fs[i] (att t i)] := by
  rw [List.take_succ_eq_append_getElem (by rw [fitL_length]; exact h), fitL_get ver fs 0 t i h, Nat.zero_add]
end Go.Proofs.Ytaoecdeljfdmeaa
