/- FnMakeDescribeTopicPartitionsRequest: for every number and every tree the statement's function returns true and leaves its arguments as they were. Conditions: those of the row, no others. -/
import Derived.Test.YtmihblfjhoblmaaPartG
import Derived.Test.YtmihblfjhoblmaaPartC
import Derived.Test.YtmihblfjhoblmaaPartD
import Derived.Test.YtmihblfjhoblmaaRows
set_option linter.all false
/- A tree among the arguments: what it says. -/
namespace Go.Proofs.Ytmihblfjhoblmaa
open Go Go.RowKit Go.ChangeShapes Go.WideShapes Go.ChangeAt

theorem co_i64 : Try.prog.cellsOf 2 = 1 := by kernel_rfl
theorem co_u8 : Try.prog.cellsOf 5 = 1 := by kernel_rfl
theorem co_u32 : Try.prog.cellsOf 62 = 1 := by kernel_rfl
theorem co_bool : Try.prog.cellsOf 4 = 1 := by kernel_rfl
theorem co_bytes : Try.prog.cellsOf 22 = 1 := by kernel_rfl
theorem co_trees : Try.prog.cellsOf 23 = 1 := by kernel_rfl
theorem co_tags : Try.prog.cellsOf 24 = 1 := by kernel_rfl
theorem co_tree : Try.prog.cellsOf 26 = 5 := by kernel_rfl
theorem co_tag : Try.prog.cellsOf 64 = 2 := by kernel_rfl
theorem len2 {α : Type} {l : List α} (h : l.length = 2) : ∃ a b, l = [a, b] := by
  match l, h with
  | [a, b], _ => exact ⟨a, b, rfl⟩
theorem len5 {α : Type} {l : List α} (h : l.length = 5) : ∃ a b c d e, l = [a, b, c, d, e] := by
  match l, h with
  | [a, b, c, d, e], _ => exact ⟨a, b, c, d, e, rfl⟩
section
set_option maxRecDepth 100000
variable {H : Type} {enc : TypeId × Value → H} {W : World} {base : Nat} {spare : Nat → Bool} {held : Bool}
theorem bk_all {l : List (DataW H)} : Rows.uptoBulkAll l = (l.map Rows.uptoBulk).sum := by
  induction l with
  | nil => rfl
  | cons x l ih => simp only [Rows.uptoBulkAll, List.map_cons, List.sum_cons, ih]
theorem bk_sl (es sp : List (DataW H)) : (es.map Rows.uptoBulk).sum + 1 ≤ Rows.uptoBulk (.slice es sp) := by
  simp only [Rows.uptoBulk, bk_all]; omega
theorem bk_agg (es : List (DataW H)) : (es.map Rows.uptoBulk).sum + 1 ≤ Rows.uptoBulk (.agg es) := by
  simp only [Rows.uptoBulk, bk_all]; omega
theorem bk_int (k : IntKind) (n : Int) : 1 ≤ Rows.uptoBulk (H := H) (.lit (.int k n)) := by simp [Rows.uptoBulk]
theorem bk_nil : 1 ≤ Rows.uptoBulk (H := H) .nil := by simp [Rows.uptoBulk]
theorem wts_sum (l : List Tree) : Tree.wts l = (l.map Tree.wt).sum := by
  induction l with
  | nil => rfl
  | cons x l ih => simp only [Tree.wts, List.map_cons, List.sum_cons, ih]
theorem ones_sum {α : Type} (l : List α) : (l.map fun _ => 1).sum = l.length := by
  induction l with
  | nil => rfl
  | cons x l ih => simp only [List.map_cons, List.sum_cons, List.length_cons, ih]; omega
theorem open_bytes {fuel : Nat} {cs : List Value} {x : DataW H × List MemPlace} (h : DataW.trod enc Try.prog W base spare held fuel 22 cs = some x) :
    ∃ (s : List UInt8) (v : Value), cs = [v] ∧ s.length ≤ maxLen ∧ Sq W.heap.size W v (s.map byteD) ∧ s.length + 1 ≤ Rows.uptoBulk x.1 := by
  obtain ⟨l, v, h1, h2, h3, _, h5⟩ := open_sq (e := 5) (sz := 1) Try.underlying22 co_u8 (by omega) byteD (fun _ => True) (fun _ => 1) Rows.uptoBulk bk_nil bk_sl h (fun n cs' x' _ hx => by
    obtain ⟨m, rfl, hxe, hw⟩ := DataW.trod_int Try.underlying5 hx
    have hm : 0 ≤ m ∧ m ≤ 255 := by simpa [Lit.wf, IntKind.min, IntKind.max, IntKind.signed, IntKind.bits] using hw
    refine ⟨UInt8.ofNat m.toNat, ?_, trivial, by rw [hxe]; exact bk_int _ _⟩
    simp only [byteD, Rep]
    rw [byteNat _ (by omega)]
    congr 2
    omega)
  rw [ones_sum] at h5
  exact ⟨l, v, h1, h2, h3, h5⟩
theorem open_tags {fuel : Nat} {cs : List Value} {x : DataW H × List MemPlace} (h : DataW.trod enc Try.prog W base spare held fuel 24 cs = some x) :
    ∃ (u : List (Nat × List UInt8)) (v : Value), cs = [v] ∧ u.length ≤ maxLen ∧ Sq W.heap.size W v (u.map tagD) ∧ (∀ kv ∈ u, kv.1 < 4294967296) ∧ tagsW u + 1 ≤ Rows.uptoBulk x.1 := by
  refine open_sq (e := 64) (sz := 2) Try.underlying24 co_tag (by omega) tagD (fun kv => kv.1 < 4294967296) (fun kv => kv.2.length + 1) Rows.uptoBulk bk_nil bk_sl h (fun n cs' x' _ hx => ?_)
  obtain ⟨xs, k, _, rfl, hl, hlen, hf⟩ := DataW.trod_struct Try.underlying64 hx
  rw [co_tag] at hl
  obtain ⟨v0, v1, rfl⟩ := len2 hl
  · have hxl : xs.length = 2 := hlen
    have h0 := hf 0 _ rfl
    have h1 := hf 1 _ rfl
    rw [List.getElem?_eq_getElem (by omega)] at h0 h1
    simp [co_u32, co_bytes] at h0 h1
    obtain ⟨m, hv0, _, hw⟩ := DataW.trod_int Try.underlying62 h0
    obtain ⟨s, v, hv1, _, hs, hsb⟩ := open_bytes h1
    have hm : 0 ≤ m ∧ m ≤ 4294967295 := by simpa [Lit.wf, IntKind.min, IntKind.max, IntKind.signed, IntKind.bits] using hw
    simp only [List.cons.injEq, and_true] at hv0 hv1
    subst hv0; subst hv1
    refine ⟨(m.toNat, s), ?_, by simp only []; omega, ?_⟩
    rotate_left
    · obtain ⟨a, b, rfl⟩ := len2 hxl
      · have := bk_agg [a.1, b.1]
        simp only [List.map_cons, List.map_nil, List.sum_cons, List.sum_nil, List.getElem_cons_succ, List.getElem_cons_zero] at this hsb ⊢
        omega
    have : (.int .u32 m : Value) = .int .u32 ((m.toNat : Nat) : Int) := by congr 1; omega
    rw [this]
    exact rep_tag hs
theorem open_tree : ∀ (fuel : Nat) (cs : List Value) (x : DataW H × List MemPlace), DataW.trod enc Try.prog W base spare held fuel 26 cs = some x →
    ∃ t : Tree, Rep (Lo W.heap.size) W (treeD t) cs ∧ t.ok ∧ t.wt ≤ Rows.uptoBulk x.1 := by
  intro fuel
  induction fuel using Nat.strongRecOn with
  | _ fuel ih =>
    intro cs x h
    obtain ⟨xs, k, hfu, rfl, hl, hlen, hf⟩ := DataW.trod_struct Try.underlying26 h
    rw [co_tree] at hl
    obtain ⟨v0, v1, v2, v3, v4, rfl⟩ := len5 hl
    · have hxl : xs.length = 5 := hlen
      have h0 := hf 0 _ rfl
      have h1 := hf 1 _ rfl
      have h2 := hf 2 _ rfl
      have h3 := hf 3 _ rfl
      have h4 := hf 4 _ rfl
      rw [List.getElem?_eq_getElem (by omega)] at h0 h1 h2 h3 h4
      simp [co_i64, co_bytes, co_bool, co_trees, co_tags] at h0 h1 h2 h3 h4
      obtain ⟨n, hv0, hb0, hw0⟩ := DataW.trod_int Try.underlying2 h0
      obtain ⟨s, sv, hv1, hsl, hs, hb1⟩ := open_bytes h1
      obtain ⟨b, hv2, hb2⟩ := DataW.trod_bool Try.underlying4 h2
      obtain ⟨l, lv, hv3, _, hl3, hok, hb3⟩ := open_sq (e := 26) (sz := 5) Try.underlying23 co_tree (by omega) treeD (fun t => t.ok) Tree.wt Rows.uptoBulk bk_nil bk_sl h3 (fun n cs' x' hn hx => ih n (by omega) cs' x' hx)
      obtain ⟨u, uv, hv4, _, hu, huk, hb4⟩ := open_tags h4
      simp only [List.cons.injEq, and_true] at hv0 hv1 hv2 hv3 hv4
      subst hv0; subst hv1; subst hv2; subst hv3; subst hv4
      refine ⟨.mk n s b l u, rep_tree hs hl3 hu, ?_, ?_⟩
      rotate_left
      · obtain ⟨a0, a1, a2, a3, a4, rfl⟩ := len5 hxl
        · have := bk_agg [a0.1, a1.1, a2.1, a3.1, a4.1]
          simp only [List.map_cons, List.map_nil, List.sum_cons, List.sum_nil, List.getElem_cons_succ, List.getElem_cons_zero] at this hb0 hb1 hb2 hb3 hb4 ⊢
          simp only [Tree.wt, wts_sum]
          omega
      simp only [Tree.ok]
      refine ⟨by simp only [maxLen] at hsl; omega, huk, ?_, by simpa [Lit.wf, IntKind.min, IntKind.max, IntKind.signed, IntKind.bits] using hw0⟩
      have : ∀ l : List Tree, (∀ t ∈ l, t.ok) → Tree.oks l := by
        intro l
        induction l with
        | nil => intro _; simp [Tree.oks]
        | cons y l ih2 => intro h; simp only [Tree.oks]; exact ⟨h y (by simp), ih2 (fun t ht => h t (by simp [ht]))⟩
      exact this l hok
end
end Go.Proofs.Ytmihblfjhoblmaa

/- FnMakeDescribeTopicPartitionsRequest: for every number and every tree the statement's function returns true and leaves its arguments as they were. Conditions: those of the row, no others. -/
namespace Go.Proofs.Ytmihblfjhoblmaa.BDescribeTopicPartitionsRequest
open Go Go.RowKit Go.ChangeShapes Go.WideShapes Go.ChangeAt

theorem own : ownKnob Try.prog.godebug = none := by kernel_rfl
theorem laidOut : laidOutB Try.prog = true := by kernel_rfl
set_option maxRecDepth 100000 in
theorem lifted (os : Os) (started : os.Started) (H : Type) (enc : TypeId × Value → H) :
    ReturnsInHanded {} Try.checked os 4 .any (Rows.fnMakeDescribeTopicPartitionsRequestSpec.pre6 enc Try.prog Try.f4 Rows.fnMakeDescribeTopicPartitionsRequestRow.domain false) (Rows.fnMakeDescribeTopicPartitionsRequestSpec.post enc Try.prog Try.f4 false true false false) := by
  refine returnsInHanded_of_change (C := Try.checked) own started (by kernel_rfl) Try.func4
    (ChangeSpec.witness6 (enc := enc) (C := Try.checked) false ⟨#[], #[.int .u8 0, .agg #[.int .i64 0, .slice none 0 0, .bool false, .slice none 0 0, .slice none 0 0]], []⟩ 8 (by kernel_rfl) (by kernel_rfl) (by kernel_rfl) (by kernel_rfl)) ?_
  intro W base args ds gs before hval0 hW hcnd _
  have hval : ∀ (j : Nat) t v, Try.f4.params[j]? = some t → args[j]? = some v → Value.okWide Try.prog W .any base t v := hval0
  have hW' := hW
  obtain ⟨p, q, hA0, hV, rfl, hfz, hnd⟩ := hW
  have hA : DataW.TrodAll enc Try.prog W 0 (fun _ => true) true Try.f4.params.toList args.toList ds p := hA0
  rw [Try.params4] at hA hval
  obtain ⟨v0, v1, d0, d1, p0, p1, rfl, rfl, rfl, h0, h1⟩ := trodAll_two hA
  obtain ⟨rfl, rfl⟩ := trodVars_none hV
  obtain ⟨a, rfl, rfl, rfl, wa⟩ := open_int Try.underlying5 (hval 0 5 v0 rfl rfl) h0
  have hv1 := hval 1 26 v1 rfl rfl
  unfold Value.okWide at hv1
  rw [Try.underlying26] at hv1
  obtain ⟨cs, rfl, _⟩ := hv1
  obtain ⟨fuel, hfu⟩ := id h1
  obtain ⟨t, hrep, hok, hwt⟩ := open_tree fuel _ _ hfu
  clear hA0 hval0
  simp only [List.append_nil, List.nil_append] at hW'
  have ha : 0 ≤ a ∧ a ≤ 255 := by simpa [Lit.wf, IntKind.min, IntKind.max, IntKind.signed, IntKind.bits] using wa
  have hlaw := fn_law a.toNat (by omega) t hok W cs.toList hrep
  rw [show ((a.toNat : Nat) : Int) = a from by omega] at hlaw
  simp only [Array.toArray_toList] at hlaw
  refine Calls.mono hlaw fun e W' he => ?_
  obtain ⟨v, rfl, hb, rfl⟩ := he
  refine ⟨_, rfl, _, _, _, [], p1, [], hW', trodAll_mk1 (shut_bool Try.underlying4 _), ?_, ?_, hb.frame _, fun h => by cases h⟩
  · exact trodAll_mk2 (shut_int Try.underlying5 wa) (Below.trod laidOut (by kernel_rfl) (Nat.le_of_ble_eq_true (by kernel_rfl)) h1 hb (fun x hx => hW'.lt x hx))
  · rfl

set_option maxHeartbeats 400000000 in
theorem holds : Rows.FnMakeDescribeTopicPartitionsRequestSaid :=
  OpenClaim.holds_of_wide 4 Try.f4 rfl rfl rfl rfl rfl rfl rfl ⟨rfl, rfl, rfl, rfl, rfl⟩ rfl rfl rfl rfl rfl (by kernel_rfl) Try.func4 (by unfold joinedFacts; simp only [Bool.and_eq_true]; and_intros <;> as_aux_lemma => kernel_rfl)
    (of_decide_eq_true (by kernel_rfl)) (by unfold Func.isWrapper; first | (rw [if_pos (by decide +kernel)]; kernel_rfl) | (rw [if_neg (by decide +kernel)]; exact ⟨rfl, rfl⟩))
    (fun os started H enc _ => lifted os started H enc)
end Go.Proofs.Ytmihblfjhoblmaa.BDescribeTopicPartitionsRequest
