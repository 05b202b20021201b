/- The walk, piece by piece of code: sequences, tests, blocks, loops, the end of a function. Over any program. -/
import Derived.Test.YtaoecdeljfdmeaaWalk
import Derived.Deep.LoopGhost
namespace Go.Proofs.Ytaoecdeljfdmeaa
open Go Go.RowKit

section
variable {P : Program} {Q : Exit → Act → World → Prop} {N : Nat} {L : Sl} {w : World}

/-- What stands behind: the code y, then Q. -/
def Thn (P : Program) (y : Code) (Q : Exit → Act → World → Prop) : Exit → Act → World → Prop := Exit.then (fun a w => y.wp P Q a w) Q

theorem wc_seq {x y : Code} (h : WC x P (Thn P y Q) N L w) : WC (.seq x y) P Q N L w := fun a k => wp_seq (h a k)
theorem wc_region {id : Nat} {l : List Oper} (h : WL l P l.toArray Q N L w) : WC (.region id l.toArray false) P Q N L w := fun a k => wp_region_lit (h a k)
theorem wc_skip (h : QK .normal Q N L w) : WC .skip P Q N L w := fun a k => wp_skip (h a k)
theorem wc_ret (h : QK .ret Q N L w) : WC .ret P Q N L w := fun a k => wp_ret (h a k)
theorem wc_exit {id : Nat} (h : QK (.exit id) Q N L w) : WC (.exit id) P Q N L w := fun a k => wp_exit (h a k)
theorem wc_block {id : Nat} {c : Code} (h : WC c P (Exit.inBlock id Q) N L w) : WC (.block id c) P Q N L w := fun a k => wp_block (h a k)
theorem wc_cond {c : Operand} {x y : Code} {t : Bool} (hc : ev L c = some (.bool t)) (hx : t = true → WC x P Q N L w) (hy : t = false → WC y P Q N L w) : WC (.cond c x y) P Q N L w :=
  fun a k => wp_cond_split (k.eval hc) (fun e => hx e a k) (fun e => hy e a k)
theorem wc_sub {c : Code} {L' : Sl} (hs : Sub L' L) (h : WC c P Q N L' w) : WC c P Q N L w := fun a k => h a (k.weaken hs)
theorem wc_mono {c : Code} {Q' : Exit → Act → World → Prop} (h : WC c P Q N L w) (hq : ∀ e a w, Q e a w → Q' e a w) : WC c P Q' N L w := fun a k => wp_mono (h a k) hq
theorem wc_loop {α : Type} {c : Code} (Lf : α → Sl) (Wf : α → World → Prop) (μ : α → Nat) (x : α) (hL : Sub (Lf x) L) (hW : Wf x w)
    (round : ∀ y w', Wf y w' → WC c P (Exit.then (fun a' w'' => ∃ z, Kn N a' (Lf z) ∧ Wf z w'' ∧ μ z < μ y) Q) N (Lf y) w') : WC (.loop c) P Q N L w := by
  intro a k
  refine wp_loop_ghost (fun n a' w' => ∃ z, Kn N a' (Lf z) ∧ Wf z w' ∧ μ z = n) (μ x) ⟨x, k.weaken hL, hW, rfl⟩ ?_
  rintro n a' w' ⟨y, ky, hy, rfl⟩
  refine wp_mono (round y w' hy a' ky) (fun e a'' w'' hq => ?_)
  cases e with
  | normal =>
    obtain ⟨z, kz, hz, hlt⟩ := hq
    exact ⟨μ z, hlt, z, kz, hz, rfl⟩
  | _ => exact hq

theorem qk_thn {y : Code} (h : WC y P Q N L w) : QK .normal (Thn P y Q) N L w := fun a k => h a k
theorem qk_thn_ret {y : Code} (h : QK .ret Q N L w) : QK .ret (Thn P y Q) N L w := fun a k => h a k
theorem qk_thn_exit {y : Code} {id : Nat} (h : QK (.exit id) Q N L w) : QK (.exit id) (Thn P y Q) N L w := fun a k => h a k
theorem qk_in {id : Nat} (h : QK .normal Q N L w) : QK .normal (Exit.inBlock id Q) N L w := fun a k => h a k
theorem qk_in_ret {id : Nat} (h : QK .ret Q N L w) : QK .ret (Exit.inBlock id Q) N L w := fun a k => h a k
theorem qk_in_exit {id : Nat} (h : QK .normal Q N L w) : QK (.exit id) (Exit.inBlock id Q) N L w := fun a k => by
  show (if id = id then _ else _); rw [if_pos rfl]; exact h a k
theorem qk_in_exit_ne {id id' : Nat} (hne : id' ≠ id) (h : QK (.exit id') Q N L w) : QK (.exit id') (Exit.inBlock id Q) N L w := fun a k => by
  show (if id' = id then _ else _); rw [if_neg hne]; exact h a k
theorem qk_round {α : Type} {Lf : α → Sl} {Wf : α → World → Prop} {μ : α → Nat} {y : α} (z : α) (hL : Sub (Lf z) L) (hW : Wf z w) (hlt : μ z < μ y) :
    QK .normal (Exit.then (fun a' w'' => ∃ z, Kn N a' (Lf z) ∧ Wf z w'' ∧ μ z < μ y) Q) N L w := fun _ k => ⟨z, k.weaken hL, hW, hlt⟩
theorem qk_round_ret {R : Act → World → Prop} (h : QK .ret Q N L w) : QK .ret (Exit.then R Q) N L w := fun a k => h a k
theorem qk_round_exit {R : Act → World → Prop} {id : Nat} (h : QK (.exit id) Q N L w) : QK (.exit id) (Exit.then R Q) N L w := fun a k => h a k

/-- The start of a function: its arguments in its first slots. -/
def argsL : Nat → List Value → Sl
  | _, [] => []
  | i, v :: r => (i, v) :: argsL (i + 1) r
theorem lk_args (vs : List Value) : ∀ (i t : Nat) (v : Value), lk (argsL i vs) t = some v → i ≤ t ∧ vs[t - i]? = some v := by
  induction vs with
  | nil => intro i t v e; cases e
  | cons u r ih =>
    intro i t v e
    simp only [argsL, lk] at e
    cases hb : Nat.beq i t with
    | true => rw [hb] at e; have := beq_out hb; subst this; simpa using e
    | false =>
      rw [hb] at e
      obtain ⟨h1, h2⟩ := ih (i + 1) t v e
      refine ⟨by omega, ?_⟩
      have : t - i = (t - (i + 1)) + 1 := by omega
      rw [this]; simpa using h2
theorem enter {f : FuncId} {fn : Func} {c : Code} {vs : List Value} {R : Ending → World → Prop} (hf : P.funcs[f]? = some fn) (hb : fn.body = some c) (hn : fn.ntmps = N) (hl : Nat.ble vs.length N = true)
    (h : WC c P (bodyPost P fn R) N (argsL 0 vs) w) : Calls P f vs.toArray w R := by
  refine calls_of_wp hf hb (h _ ⟨?_, rfl, fun t v e => ?_⟩)
  · have := Nat.le_of_ble_eq_true hl
    simp [hn]; omega
  · obtain ⟨_, h2⟩ := lk_args vs 0 t v e
    have hlt : t < vs.length := by
      have := (List.getElem?_eq_some_iff.1 h2).1; simpa using this
    have h3 : (vs.toArray ++ Array.replicate (fn.ntmps - vs.toArray.size) undef)[t]? = some v := by
      rw [Array.getElem?_append_left (by simpa using hlt)]; simpa using h2
    simp only [gt, Array.getD_eq_getD_getElem?, h3, Option.getD_some]
/-- The end: one result, in a slot. -/
theorem qk_ret1 {fn : Func} {R : Ending → World → Prop} {t : Nat} {v : Value} (hr : fn.results = #[.tmp t]) (hv : lk L t = some v) (h : R (.returned v) w) : QK .ret (bodyPost P fn R) N L w := by
  intro a k
  have h1 := k.at_ t v hv
  exact ⟨k.defers, v, by rw [results_tmp hr]; exact congrArg (fun x => Result.ok x w) h1, h⟩
theorem qk_ret2 {fn : Func} {R : Ending → World → Prop} {t u : Nat} {v x : Value} (hr : fn.results = #[.tmp t, .tmp u]) (hv : lk L t = some v) (hx : lk L u = some x) (h : R (.returned (.tuple #[v, x])) w) : QK .ret (bodyPost P fn R) N L w := by
  intro a k
  have h1 := k.at_ t v hv
  have h2 := k.at_ u x hx
  refine ⟨k.defers, .tuple #[v, x], ?_, h⟩
  rw [results_tmp2 hr]
  simp only [gt] at h1 h2
  rw [h1, h2]
theorem qk_ret0 {fn : Func} {R : Ending → World → Prop} (hr : fn.results = #[]) (h : R (.returned (.tuple #[])) w) : QK .ret (bodyPost P fn R) N L w := by
  intro a k
  exact ⟨k.defers, _, by rw [results_none hr], h⟩
theorem qk_end0 {fn : Func} {R : Ending → World → Prop} (hr : fn.results = #[]) (h : R (.returned (.tuple #[])) w) : QK .normal (bodyPost P fn R) N L w := by
  intro a k
  exact ⟨k.defers, _, by rw [results_none hr], h⟩
end
end Go.Proofs.Ytaoecdeljfdmeaa
