/- FnMakeLeaderAndISRResponse: for every number and every tree the statement's function returns true and leaves its arguments as they were. Conditions: those of the row, no others. -/
import Derived.Test.YtmihblfjhoblmaaPartG
import Derived.Test.YtmihblfjhoblmaaRows
import Derived.OpenShut
import Derived.JoinedCond
set_option linter.all false
/- FnMakeLeaderAndISRResponse: for every number and every tree the statement's function returns true and leaves its arguments as they were. Conditions: those of the row, no others. -/
namespace Go.Proofs.Ytmihblfjhoblmaa.BLeaderAndISRResponse
open Go Go.RowKit Go.ChangeShapes Go.WideShapes Go.ChangeAt

theorem own : ownKnob Try.prog.godebug = none := by kernel_rfl
theorem laidOut : laidOutB Try.prog = true := by kernel_rfl
set_option maxRecDepth 100000 in
theorem lifted (os : Os) (started : os.Started) (H : Type) (enc : TypeId × Value → H) (F : Stop.Interp) :
    ReturnsInHanded {} Try.checked os 8 .any ((Rows.OpenSpec.upto Rows.fnMakeLeaderAndISRResponseSpec).pre6 enc Try.prog Try.f8 Rows.fnMakeLeaderAndISRResponseUptoRow.domain false) (((Rows.OpenSpec.upto Rows.fnMakeLeaderAndISRResponseSpec).at F).post enc Try.prog Try.f8 false true false false) := by
  refine returnsInHanded_of_cond (C := Try.checked) (s := Rows.OpenSpec.upto Rows.fnMakeLeaderAndISRResponseSpec) (k := Rows.uptoSmall) rfl own started (by kernel_rfl) Try.func8
    (OpenSpec.witness (enc := enc) (C := Try.checked) (s := Rows.OpenSpec.upto Rows.fnMakeLeaderAndISRResponseSpec) (k := Rows.uptoSmall) rfl false ⟨#[], #[.int .u8 0, .agg #[.int .i64 0, .slice none 0 0, .bool false, .slice none 0 0, .slice none 0 0]], []⟩ 8 (by kernel_rfl) (by kernel_rfl) (by kernel_rfl)
      (x := ([.lit (.int .u8 0), .agg [.lit (.int .i64 0), .nil, .lit (.bool false), .nil, .nil]], [], [])) (by kernel_rfl) rfl (by kernel_rfl)) ?_
  intro W base args ds gs before hval0 hW _ hk _
  have hsmall := of_decide_eq_true hk
  suffices key : Calls Try.prog 8 args W fun e W' => ∃ v, e = .returned v ∧ Rows.fnMakeLeaderAndISRResponseSpec.post enc Try.prog Try.f8 false true false false W args v W' from key
  have hval : ∀ (j : Nat) t v, Try.f8.params[j]? = some t → args[j]? = some v → Value.okWide Try.prog W .any base t v := hval0
  have hW' := hW
  obtain ⟨p, q, hA0, hV, rfl, hfz, hnd⟩ := hW
  have hA : DataW.TrodAll enc Try.prog W 0 (fun _ => true) true Try.f8.params.toList args.toList ds p := hA0
  rw [Try.params8] at hA hval
  obtain ⟨v0, v1, d0, d1, p0, p1, rfl, rfl, rfl, h0, h1⟩ := trodAll_two hA
  obtain ⟨rfl, rfl⟩ := trodVars_none hV
  obtain ⟨a, rfl, rfl, rfl, wa⟩ := open_int Try.underlying5 (hval 0 5 v0 rfl rfl) h0
  have hv1 := hval 1 26 v1 rfl rfl
  unfold Value.okWide at hv1
  rw [Try.underlying26] at hv1
  obtain ⟨cs, rfl, _⟩ := hv1
  obtain ⟨fuel, hfu⟩ := id h1
  obtain ⟨t, hrep, hok, hwt⟩ := open_tree fuel _ _ hfu
  clear hA0 hval0
  simp only [List.append_nil, List.nil_append] at hW'
  have ha : 0 ≤ a ∧ a ≤ 255 := by simpa [Lit.wf, IntKind.min, IntKind.max, IntKind.signed, IntKind.bits] using wa
  have hsm : t.wt ≤ 1048576 := by simp only [List.append_nil, List.cons_append, List.nil_append, Rows.uptoBulkAll] at hsmall; simp only [] at hwt; omega
  have hlaw := fn_law a.toNat (by omega) t hok hsm W cs.toList hrep
  rw [show ((a.toNat : Nat) : Int) = a from by omega] at hlaw
  simp only [Array.toArray_toList] at hlaw
  refine Calls.mono hlaw fun e W' he => ?_
  obtain ⟨v, rfl, hb, rfl⟩ := he
  refine ⟨_, rfl, _, _, _, [], p1, [], hW', trodAll_mk1 (shut_bool Try.underlying4 _), ?_, ?_, hb.frame _, fun h => by cases h⟩
  · exact trodAll_mk2 (shut_int Try.underlying5 wa) (Below.trod laidOut (by kernel_rfl) (Nat.le_of_ble_eq_true (by kernel_rfl)) h1 hb (fun x hx => hW'.lt x hx))
  · rfl

set_option maxHeartbeats 400000000 in
theorem holds : Rows.FnMakeLeaderAndISRResponseUptoSaid :=
  OpenClaim.holds_of_cond 8 Try.f8 rfl rfl rfl rfl rfl rfl rfl ⟨rfl, rfl, rfl, rfl, rfl⟩ rfl rfl rfl rfl rfl (by kernel_rfl) Try.func8 (by unfold joinedFacts; simp only [Bool.and_eq_true]; and_intros <;> as_aux_lemma => kernel_rfl)
    (of_decide_eq_true (by kernel_rfl)) (by unfold Func.isWrapper; first | (rw [if_pos (by decide +kernel)]; kernel_rfl) | (rw [if_neg (by decide +kernel)]; exact ⟨rfl, rfl⟩))
    (fun os started H enc _ F => lifted os started H enc F)
end Go.Proofs.Ytmihblfjhoblmaa.BLeaderAndISRResponse
