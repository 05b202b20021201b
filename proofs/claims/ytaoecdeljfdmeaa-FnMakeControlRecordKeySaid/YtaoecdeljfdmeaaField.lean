/- A part read out of a struct's value; a slice of one element. Over any program. -/
import Derived.Test.YtaoecdeljfdmeaaRowD
namespace Go.Proofs.Ytaoecdeljfdmeaa
open Go Go.RowKit

/-- Where a field of one cell lies. -/
def partOff (P : Program) (s f : Nat) : Option Nat :=
  match P.underlying s with
  | some (.struct fs) => (match fs[f]? with | some fd => (if tyOne P fd.type then some fd.offset else none) | none => none)
  | _ => none
section
variable {P : Program} {ops : Array Oper} {Q : Exit → Act → World → Prop} {N : Nat} {rest : List Oper} {L : Sl} {w : World} {d : Nat} {ty : TypeId} {pos : String} {aft : Array Edge}
theorem wl_field {x : Operand} {s f off : Nat} {cs : List Value} {v : Value} (hx : ev L x = some (.agg cs.toArray)) (ho : partOff P s f = some off) (hv : cs[off]? = some v) (hd : Nat.blt d N = true) (h : WL rest P ops Q N ((d, v) :: L) w) :
    WL (⟨some d, .field s x f, ty, pos, aft, none⟩ :: rest) P ops Q N L w := by
  intro a k
  refine st_of (o := ⟨some d, .field s x f, ty, pos, aft, none⟩) (v := v) (w' := w) rfl ?_ (h _ (k.put _ hd))
  unfold partOff at ho
  split at ho
  · rename_i fs hs
    split at ho
    · rename_i fd hfd
      split at ho
      · rename_i h1
        cases ho
        simp [execOp, Instr.field, run_underlying hs, hfd, k.eval hx, asAgg, part, run_isAgg_one h1, hv]
      · cases ho
    · cases ho
  · cases ho
theorem wl_slice1 {t e sz : Nat} {x : Operand} {v : Value} {cs : List Value} (hT : rowTy P t e sz = true) (hx : ev L x = some v) (hv : v.cells = cs.toArray) (hc : cs.length = sz) (hsz : (Nat.blt 0 sz && Nat.ble sz 1000) = true) (hd : Nat.blt d N = true)
    (h : ∀ w', Box w' w.heap.size cs e → w.grownBy w' none → w'.heap.size = w.heap.size + 1 → WL rest P ops Q N ((d, .slice (some ⟨w.heap.size, 0, none⟩) 1 1) :: L) w') :
    WL (⟨some d, .buildSlice t 1 #[(0, x)], ty, pos, aft, none⟩ :: rest) P ops Q N L w := by
  intro a k
  refine st_of (o := ⟨some d, .buildSlice t 1 #[(0, x)], ty, pos, aft, none⟩) (v := .slice (some ⟨w.heap.size, 0, none⟩) 1 1) (w' := w.alloc (.cells cs.toArray e)) rfl ?_ (h _ (box_alloc w cs e) (grown_alloc w _) (by simp) _ (k.put _ hd))
  simp only [execOp, Sem.run_bind]
  have : Array.map (fun x => (x.1, a.eval x.2)) #[(0, x)] = #[(0, v)] := by simp [k.eval hx]
  rw [this, run_slice1 hT hv hc hsz]
  simp
end
end Go.Proofs.Ytaoecdeljfdmeaa
