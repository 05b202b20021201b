/- A tree among the arguments: what it says. -/
import Derived.Test.YtaoecdeljfdmeaaOpen
namespace Go.Proofs.Ytaoecdeljfdmeaa
open Go Go.RowKit Go.ChangeShapes Go.WideShapes Go.ChangeAt

theorem co_i64 : Try.prog.cellsOf 2 = 1 := by kernel_rfl
theorem co_u8 : Try.prog.cellsOf 5 = 1 := by kernel_rfl
theorem co_u32 : Try.prog.cellsOf 54 = 1 := by kernel_rfl
theorem co_bool : Try.prog.cellsOf 4 = 1 := by kernel_rfl
theorem co_bytes : Try.prog.cellsOf 22 = 1 := by kernel_rfl
theorem co_trees : Try.prog.cellsOf 23 = 1 := by kernel_rfl
theorem co_tags : Try.prog.cellsOf 24 = 1 := by kernel_rfl
theorem co_tree : Try.prog.cellsOf 26 = 5 := by kernel_rfl
theorem co_tag : Try.prog.cellsOf 56 = 2 := by kernel_rfl
theorem len2 {l : List Value} (h : l.length = 2) : ∃ a b, l = [a, b] := by
  match l, h with
  | [a, b], _ => exact ⟨a, b, rfl⟩
theorem len5 {l : List Value} (h : l.length = 5) : ∃ a b c d e, l = [a, b, c, d, e] := by
  match l, h with
  | [a, b, c, d, e], _ => exact ⟨a, b, c, d, e, rfl⟩
section
set_option maxRecDepth 100000
variable {H : Type} {enc : TypeId × Value → H} {W : World} {base : Nat} {spare : Nat → Bool} {held : Bool}
theorem open_bytes {fuel : Nat} {cs : List Value} {x : DataW H × List MemPlace} (h : DataW.trod enc Try.prog W base spare held fuel 22 cs = some x) :
    ∃ (s : List UInt8) (v : Value), cs = [v] ∧ s.length ≤ maxLen ∧ Sq W.heap.size W v (s.map byteD) := by
  obtain ⟨l, v, h1, h2, h3, _⟩ := open_sq (e := 5) (sz := 1) Try.underlying22 co_u8 (by omega) byteD (fun _ => True) h (fun n cs' x' _ hx => by
    obtain ⟨m, rfl, _, hw⟩ := DataW.trod_int Try.underlying5 hx
    have hm : 0 ≤ m ∧ m ≤ 255 := by simpa [Lit.wf, IntKind.min, IntKind.max, IntKind.signed, IntKind.bits] using hw
    refine ⟨UInt8.ofNat m.toNat, ?_, trivial⟩
    simp only [byteD, Rep]
    rw [byteNat _ (by omega)]
    congr 2
    omega)
  exact ⟨l, v, h1, h2, h3⟩
theorem open_tags {fuel : Nat} {cs : List Value} {x : DataW H × List MemPlace} (h : DataW.trod enc Try.prog W base spare held fuel 24 cs = some x) :
    ∃ (u : List (Nat × List UInt8)) (v : Value), cs = [v] ∧ u.length ≤ maxLen ∧ Sq W.heap.size W v (u.map tagD) ∧ ∀ kv ∈ u, kv.1 < 4294967296 := by
  refine open_sq (e := 56) (sz := 2) Try.underlying24 co_tag (by omega) tagD (fun kv => kv.1 < 4294967296) h (fun n cs' x' _ hx => ?_)
  obtain ⟨xs, k, _, _, hl, hlen, hf⟩ := DataW.trod_struct Try.underlying56 hx
  rw [co_tag] at hl
  obtain ⟨v0, v1, rfl⟩ := len2 hl
  · have hxl : xs.length = 2 := hlen
    have h0 := hf 0 _ rfl
    have h1 := hf 1 _ rfl
    rw [List.getElem?_eq_getElem (by omega)] at h0 h1
    simp [co_u32, co_bytes] at h0 h1
    obtain ⟨m, hv0, _, hw⟩ := DataW.trod_int Try.underlying54 h0
    obtain ⟨s, v, hv1, _, hs⟩ := open_bytes h1
    have hm : 0 ≤ m ∧ m ≤ 4294967295 := by simpa [Lit.wf, IntKind.min, IntKind.max, IntKind.signed, IntKind.bits] using hw
    simp only [List.cons.injEq, and_true] at hv0 hv1
    subst hv0; subst hv1
    refine ⟨(m.toNat, s), ?_, by simp only []; omega⟩
    have : (.int .u32 m : Value) = .int .u32 ((m.toNat : Nat) : Int) := by congr 1; omega
    rw [this]
    exact rep_tag hs
theorem open_tree : ∀ (fuel : Nat) (cs : List Value) (x : DataW H × List MemPlace), DataW.trod enc Try.prog W base spare held fuel 26 cs = some x →
    ∃ t : Tree, Rep (Lo W.heap.size) W (treeD t) cs ∧ t.ok := by
  intro fuel
  induction fuel using Nat.strongRecOn with
  | _ fuel ih =>
    intro cs x h
    obtain ⟨xs, k, hfu, _, hl, hlen, hf⟩ := DataW.trod_struct Try.underlying26 h
    rw [co_tree] at hl
    obtain ⟨v0, v1, v2, v3, v4, rfl⟩ := len5 hl
    · have hxl : xs.length = 5 := hlen
      have h0 := hf 0 _ rfl
      have h1 := hf 1 _ rfl
      have h2 := hf 2 _ rfl
      have h3 := hf 3 _ rfl
      have h4 := hf 4 _ rfl
      rw [List.getElem?_eq_getElem (by omega)] at h0 h1 h2 h3 h4
      simp [co_i64, co_bytes, co_bool, co_trees, co_tags] at h0 h1 h2 h3 h4
      obtain ⟨n, hv0, _, _⟩ := DataW.trod_int Try.underlying2 h0
      obtain ⟨s, sv, hv1, hsl, hs⟩ := open_bytes h1
      obtain ⟨b, hv2, _⟩ := DataW.trod_bool Try.underlying4 h2
      obtain ⟨l, lv, hv3, _, hl3, hok⟩ := open_sq (e := 26) (sz := 5) Try.underlying23 co_tree (by omega) treeD (fun t => t.ok) h3 (fun n cs' x' hn hx => ih n (by omega) cs' x' hx)
      obtain ⟨u, uv, hv4, _, hu, huk⟩ := open_tags h4
      simp only [List.cons.injEq, and_true] at hv0 hv1 hv2 hv3 hv4
      subst hv0; subst hv1; subst hv2; subst hv3; subst hv4
      refine ⟨.mk n s b l u, rep_tree hs hl3 hu, ?_⟩
      simp only [Tree.ok]
      refine ⟨by simp only [maxLen] at hsl; omega, huk, ?_⟩
      have : ∀ l : List Tree, (∀ t ∈ l, t.ok) → Tree.oks l := by
        intro l
        induction l with
        | nil => intro _; simp [Tree.oks]
        | cons y l ih2 => intro h; simp only [Tree.oks]; exact ⟨h y (by simp), ih2 (fun t ht => h t (by simp [ht]))⟩
      exact this l hok
end
end Go.Proofs.Ytaoecdeljfdmeaa
