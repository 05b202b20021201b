/- Whether a field is as it is by default: what the reference's test comes to. -/
import Derived.Test.YtaoecdeljfdmeaaWriteB
namespace Go.Proofs.Ytaoecdeljfdmeaa
open Go Go.RowKit

theorem usual_eq (f : Fld) (t : Tree) : usual f t =
    if f.kind = 0 then decide (t.n % 2 = f.df)
    else if f.kind = 7 then (t.s.take 16).all (· == 0)
    else if f.kind = 8 ∨ f.kind = 9 then (if 0 ≤ f.nul then t.nul else t.s.isEmpty)
    else if f.kind = 11 then t.l.isEmpty
    else if f.kind = 10 then usuals f.sub 0 t && (unknown f.sub t.u).isEmpty
    else be (width f.kind) t.n == be (width f.kind) f.df := by
  cases f
  simp only [usual, Fld.kind, Fld.nul, Fld.df, Fld.sub]
  rfl
theorem usuals_drop (fs : List Fld) (t : Tree) {i : Nat} (hi : i < fs.length) : usuals (fs.drop i) i t = (usual fs[i] (att t i) && usuals (fs.drop (i + 1)) (i + 1) t) := by
  rw [List.drop_eq_getElem_cons hi]
  simp only [usuals]
def UsualOK (f : Fld) : Prop := ∀ (t : Tree) (B : Nat) (w : World) (cs ts : List Value), t.ok → B ≤ w.heap.size → Rep (Lo B) w (fldD f) cs → Rep (Lo B) w (treeD t) ts →
  Fn 58 [.agg cs.toArray, .agg ts.toArray] w fun v _ => v = .bool (usual f t)

section
variable {P : Program} {N : Nat} {L : Sl} {a : Act} {w : World} {d : Option Nat} {ty : TypeId} {pos : String} {aft : Array Edge} {g : Option (Nat × Bool)}
theorem does_not {x : Operand} {t : TypeId} {b : Bool} {R : Value → World → Prop} (k : Kn N a L) (hx : ev L x = some (.bool b)) (h : R (.bool (!b)) w) : Does P ⟨d, .unOp .not t x, ty, pos, aft, g⟩ a w R := does_of (rn_not k hx) h
end
section
set_option maxRecDepth 100000
theorem usual_of (f : Fld) (hsubOK : fsok f.sub = true) (hu : ∀ g ∈ f.sub, UsualOK g) : UsualOK f := by
  intro t B w cs ts hok hB hf ht
  obtain ⟨sv, rfl, hsub⟩ := fld_cells hf
  obtain ⟨sv2, lv, uv, rfl, hs, hl, huu⟩ := tree_cells ht
  obtain ⟨la, lc, rfl, _⟩ := hl.shape
  obtain ⟨sa, sc, rfl, _⟩ := hs.shape
  rw [usual_eq]
  refine enter Try.func58 rfl Try.ntmps58 rfl ?_
  repeat first|(with_reducible first|apply wc_seq|apply wc_region|apply wl_nil|apply qk_thn|apply wc_block|apply wc_skip|apply wc_ret|apply wc_exit|apply qk_thn_ret|apply qk_in_ret|apply qk_in|apply qk_thn_exit|apply qk_in_exit|apply qk_round_ret|apply qk_round_exit)|((with_reducible apply ws);exact rfl;exact rfl)|((with_reducible apply wl_yes);exact rfl;exact rfl;exact rfl)|((with_reducible apply wl_no);exact rfl;exact rfl;exact rfl;exact rfl)|((with_reducible apply wl_noU);exact rfl;exact rfl;exact rfl)
  refine wl_box1 rfl rfl rfl (fun w1 hb1 hg1 hs1 => wl_box1 rfl rfl rfl (fun w2 hb2 hg2 hs2 => ?_))
  have hb4 := hb1.kept hg2 (by simp)
  have hw2 : Below w.heap.size w w2 := (below_of hg1 (Nat.le_refl _) (by simp)).trans (below_of hg2 (by omega) (by simp))
  have hB2 : B ≤ w2.heap.size := by omega
  have hbt : ∀ w', Below w2.heap.size w2 w' → Box w' w1.heap.size [.int .i64 t.n, .slice sa (t.s.map byteD).length sc, .bool t.nul, .slice la (t.l.map treeD).length lc, uv] 26 := fun w' h => hb2.below h (by omega)
  have hbf : ∀ w', Below w2.heap.size w2 w' → Box w' w.heap.size [.int .i64 f.kind, .int .i64 f.fr, .int .i64 f.upto, .int .i64 f.nul, .int .i64 f.tag, .int .i64 f.df, .int .i64 f.of, sv] 46 := fun w' h => hb4.below h (by omega)
  repeat first|(with_reducible first|apply wc_seq|apply wc_region|apply wl_nil|apply qk_thn|apply wc_block|apply wc_skip|apply wc_ret|apply wc_exit|apply qk_thn_ret|apply qk_in_ret|apply qk_in|apply qk_thn_exit|apply qk_in_exit|apply qk_round_ret|apply qk_round_exit)|((with_reducible apply ws);exact rfl;exact rfl)|((with_reducible apply wl_yes);exact rfl;exact rfl;exact rfl)|((with_reducible apply wl_no);exact rfl;exact rfl;exact rfl;exact rfl)|((with_reducible apply wl_noU);exact rfl;exact rfl;exact rfl)
  refine wl_loadB rfl to_int rfl hb4 rfl ?_
  repeat first|(with_reducible first|apply wc_seq|apply wc_region|apply wl_nil|apply qk_thn|apply wc_block|apply wc_skip|apply wc_ret|apply wc_exit|apply qk_thn_ret|apply qk_in_ret|apply qk_in|apply qk_thn_exit|apply qk_in_exit|apply qk_round_ret|apply qk_round_exit)|((with_reducible apply ws);exact rfl;exact rfl)|((with_reducible apply wl_yes);exact rfl;exact rfl;exact rfl)|((with_reducible apply wl_no);exact rfl;exact rfl;exact rfl;exact rfl)|((with_reducible apply wl_noU);exact rfl;exact rfl;exact rfl)
  by_cases h0 : f.kind = 0
  · refine wc_yes rfl (by simpa using h0) ?_
    rw [if_pos h0]
    repeat first|(with_reducible first|apply wc_seq|apply wc_region|apply wl_nil|apply qk_thn|apply wc_block|apply wc_skip|apply wc_ret|apply wc_exit|apply qk_thn_ret|apply qk_in_ret|apply qk_in|apply qk_thn_exit|apply qk_in_exit|apply qk_round_ret|apply qk_round_exit)|((with_reducible apply ws);exact rfl;exact rfl)|((with_reducible apply wl_yes);exact rfl;exact rfl;exact rfl)|((with_reducible apply wl_no);exact rfl;exact rfl;exact rfl;exact rfl)|((with_reducible apply wl_noU);exact rfl;exact rfl;exact rfl)
    refine wl_loadB rfl to_i64 rfl hb2 rfl ?_
    refine wl_and rfl rfl rfl (and1 t.n) ?_
    repeat first|(with_reducible first|apply wc_seq|apply wc_region|apply wl_nil|apply qk_thn|apply wc_block|apply wc_skip|apply wc_ret|apply wc_exit|apply qk_thn_ret|apply qk_in_ret|apply qk_in|apply qk_thn_exit|apply qk_in_exit|apply qk_round_ret|apply qk_round_exit)|((with_reducible apply ws);exact rfl;exact rfl)|((with_reducible apply wl_yes);exact rfl;exact rfl;exact rfl)|((with_reducible apply wl_no);exact rfl;exact rfl;exact rfl;exact rfl)|((with_reducible apply wl_noU);exact rfl;exact rfl;exact rfl)
    refine wl_loadB rfl to_i64 rfl hb4 rfl ?_
    repeat first|(with_reducible first|apply wc_seq|apply wc_region|apply wl_nil|apply qk_thn|apply wc_block|apply wc_skip|apply wc_ret|apply wc_exit|apply qk_thn_ret|apply qk_in_ret|apply qk_in|apply qk_thn_exit|apply qk_in_exit|apply qk_round_ret|apply qk_round_exit)|((with_reducible apply ws);exact rfl;exact rfl)|((with_reducible apply wl_yes);exact rfl;exact rfl;exact rfl)|((with_reducible apply wl_no);exact rfl;exact rfl;exact rfl;exact rfl)|((with_reducible apply wl_noU);exact rfl;exact rfl;exact rfl)
    exact qk_ret1 rfl rfl ⟨_, rfl, hw2, by rw [Bool.beq_eq_decide_eq]⟩
  · refine wc_no rfl (by simpa using h0) ?_
    rw [if_neg h0]
    repeat first|(with_reducible first|apply wc_seq|apply wc_region|apply wl_nil|apply qk_thn|apply wc_block|apply wc_skip|apply wc_ret|apply wc_exit|apply qk_thn_ret|apply qk_in_ret|apply qk_in|apply qk_thn_exit|apply qk_in_exit|apply qk_round_ret|apply qk_round_exit)|((with_reducible apply ws);exact rfl;exact rfl)|((with_reducible apply wl_yes);exact rfl;exact rfl;exact rfl)|((with_reducible apply wl_no);exact rfl;exact rfl;exact rfl;exact rfl)|((with_reducible apply wl_noU);exact rfl;exact rfl;exact rfl)
    by_cases h7 : f.kind = 7
    · refine wc_yes rfl (by simpa using h7) ?_
      rw [if_pos h7]
      repeat first|(with_reducible first|apply wc_seq|apply wc_region|apply wl_nil|apply qk_thn|apply wc_block|apply wc_skip|apply wc_ret|apply wc_exit|apply qk_thn_ret|apply qk_in_ret|apply qk_in|apply qk_thn_exit|apply qk_in_exit|apply qk_round_ret|apply qk_round_exit)|((with_reducible apply ws);exact rfl;exact rfl)|((with_reducible apply wl_yes);exact rfl;exact rfl;exact rfl)|((with_reducible apply wl_no);exact rfl;exact rfl;exact rfl;exact rfl)|((with_reducible apply wl_noU);exact rfl;exact rfl;exact rfl)
      refine wl_loadB rfl to_bytes rfl hb2 rfl ?_
      repeat first|(with_reducible first|apply wc_seq|apply wc_region|apply wl_nil|apply qk_thn|apply wc_block|apply wc_skip|apply wc_ret|apply wc_exit|apply qk_thn_ret|apply qk_in_ret|apply qk_in|apply qk_thn_exit|apply qk_in_exit|apply qk_round_ret|apply qk_round_exit)|((with_reducible apply ws);exact rfl;exact rfl)|((with_reducible apply wl_yes);exact rfl;exact rfl;exact rfl)|((with_reducible apply wl_no);exact rfl;exact rfl;exact rfl;exact rfl)|((with_reducible apply wl_noU);exact rfl;exact rfl;exact rfl)
      rw [List.length_map] at *
      refine wc_loop (α := Nat) (fun i => [(24, .int .i64 (i : Int)), (23, .int .i64 (t.s.length : Int)), (22, .slice sa t.s.length sc)]) (fun i w' => i ≤ t.s.length ∧ ((t.s.take i).take 16).all (· == 0) = true ∧ Below w2.heap.size w2 w') (fun i => t.s.length - i) 0 ⟨rfl, rfl, rfl, trivial⟩ ⟨Nat.zero_le _, rfl, Below.refl _ _⟩ ?_
      rintro i w3 ⟨hi, hall, hw3⟩
      have hsl := hok.s
      repeat first|(with_reducible first|apply wc_seq|apply wc_region|apply wl_nil|apply qk_thn|apply wc_block|apply wc_skip|apply wc_ret|apply wc_exit|apply qk_thn_ret|apply qk_in_ret|apply qk_in|apply qk_thn_exit|apply qk_in_exit|apply qk_round_ret|apply qk_round_exit)|((with_reducible apply ws);exact rfl;exact rfl)|((with_reducible apply wl_yes);exact rfl;exact rfl;exact rfl)|((with_reducible apply wl_no);exact rfl;exact rfl;exact rfl;exact rfl)|((with_reducible apply wl_noU);exact rfl;exact rfl;exact rfl)
      by_cases hlt : i < t.s.length
      · refine wc_yes rfl (by simpa using hlt) ?_
        repeat first|(with_reducible first|apply wc_seq|apply wc_region|apply wl_nil|apply qk_thn|apply wc_block|apply wc_skip|apply wc_ret|apply wc_exit|apply qk_thn_ret|apply qk_in_ret|apply qk_in|apply qk_thn_exit|apply qk_in_exit|apply qk_round_ret|apply qk_round_exit)|((with_reducible apply ws);exact rfl;exact rfl)|((with_reducible apply wl_yes);exact rfl;exact rfl;exact rfl)|((with_reducible apply wl_no);exact rfl;exact rfl;exact rfl;exact rfl)|((with_reducible apply wl_noU);exact rfl;exact rfl;exact rfl)
        have hs3 : Sq B w3 (.slice sa t.s.length sc) (t.s.map byteD) := hs.below ((hw2.trans (hw3.mono (by omega))).mono hB) (Nat.le_refl _)
        obtain ⟨b1, o1, c1, hv1, hc1⟩ := hs3.bytes.get hlt
        simp only [Value.slice.injEq] at hv1
        obtain ⟨rfl, _, rfl⟩ := hv1
        refine wl_indexAddr rfl rfl es_bytes rfl hlt ?_
        refine wl_load rfl to_u8 rfl hc1 ?_
        repeat first|(with_reducible first|apply wc_seq|apply wc_region|apply wl_nil|apply qk_thn|apply wc_block|apply wc_skip|apply wc_ret|apply wc_exit|apply qk_thn_ret|apply qk_in_ret|apply qk_in|apply qk_thn_exit|apply qk_in_exit|apply qk_round_ret|apply qk_round_exit)|((with_reducible apply ws);exact rfl;exact rfl)|((with_reducible apply wl_yes);exact rfl;exact rfl;exact rfl)|((with_reducible apply wl_no);exact rfl;exact rfl;exact rfl;exact rfl)|((with_reducible apply wl_noU);exact rfl;exact rfl;exact rfl)
        by_cases h16 : i < 16
        · have e16 : decide ((i : Int) < 16) = true := by simp; omega
          rw [e16]
          repeat first|(with_reducible first|apply wc_seq|apply wc_region|apply wl_nil|apply qk_thn|apply wc_block|apply wc_skip|apply wc_ret|apply wc_exit|apply qk_thn_ret|apply qk_in_ret|apply qk_in|apply qk_thn_exit|apply qk_in_exit|apply qk_round_ret|apply qk_round_exit)|((with_reducible apply ws);exact rfl;exact rfl)|((with_reducible apply wl_yes);exact rfl;exact rfl;exact rfl)|((with_reducible apply wl_no);exact rfl;exact rfl;exact rfl;exact rfl)|((with_reducible apply wl_noU);exact rfl;exact rfl;exact rfl)
          by_cases hz : t.s[i] = 0
          · refine wc_no rfl (by rw [hz]; rfl) ?_
            repeat first|(with_reducible first|apply wc_seq|apply wc_region|apply wl_nil|apply qk_thn|apply wc_block|apply wc_skip|apply wc_ret|apply wc_exit|apply qk_thn_ret|apply qk_in_ret|apply qk_in|apply qk_thn_exit|apply qk_in_exit|apply qk_round_ret|apply qk_round_exit)|((with_reducible apply ws);exact rfl;exact rfl)|((with_reducible apply wl_yes);exact rfl;exact rfl;exact rfl)|((with_reducible apply wl_no);exact rfl;exact rfl;exact rfl;exact rfl)|((with_reducible apply wl_noU);exact rfl;exact rfl;exact rfl)
            refine wl_add rfl rfl rfl (r := ((i + 1 : Nat) : Int)) (by rw [IntKind.wrap_i64]; omega) ?_
            repeat first|(with_reducible first|apply wc_seq|apply wc_region|apply wl_nil|apply qk_thn|apply wc_block|apply wc_skip|apply wc_ret|apply wc_exit|apply qk_thn_ret|apply qk_in_ret|apply qk_in|apply qk_thn_exit|apply qk_in_exit|apply qk_round_ret|apply qk_round_exit)|((with_reducible apply ws);exact rfl;exact rfl)|((with_reducible apply wl_yes);exact rfl;exact rfl;exact rfl)|((with_reducible apply wl_no);exact rfl;exact rfl;exact rfl;exact rfl)|((with_reducible apply wl_noU);exact rfl;exact rfl;exact rfl)
            refine qk_round (i + 1) ⟨rfl, rfl, rfl, trivial⟩ ⟨by omega, ?_, hw3⟩ (by omega)
            rw [List.take_succ_eq_append_getElem hlt, List.take_of_length_le (by simp; omega)]
            rw [List.take_of_length_le (by simp; omega)] at hall
            simp [hall, hz]
          · refine wc_yes rfl (by simp only [bne_iff_ne, ne_eq]; intro e; exact hz (UInt8.toNat_inj.1 (by simpa using e))) ?_
            repeat first|(with_reducible first|apply wc_seq|apply wc_region|apply wl_nil|apply qk_thn|apply wc_block|apply wc_skip|apply wc_ret|apply wc_exit|apply qk_thn_ret|apply qk_in_ret|apply qk_in|apply qk_thn_exit|apply qk_in_exit|apply qk_round_ret|apply qk_round_exit)|((with_reducible apply ws);exact rfl;exact rfl)|((with_reducible apply wl_yes);exact rfl;exact rfl;exact rfl)|((with_reducible apply wl_no);exact rfl;exact rfl;exact rfl;exact rfl)|((with_reducible apply wl_noU);exact rfl;exact rfl;exact rfl)
            refine qk_ret1 rfl rfl ⟨_, rfl, hw2.trans (hw3.mono (by omega)), ?_⟩
            show Value.bool false = Value.bool _
            congr 1
            symm
            rw [List.all_eq_false]
            refine ⟨t.s[i], ?_, by simpa using hz⟩
            rw [List.mem_iff_getElem]
            exact ⟨i, by simp; omega, by simp⟩
        · have e16 : decide ((i : Int) < 16) = false := by simp; omega
          rw [e16]
          repeat first|(with_reducible first|apply wc_seq|apply wc_region|apply wl_nil|apply qk_thn|apply wc_block|apply wc_skip|apply wc_ret|apply wc_exit|apply qk_thn_ret|apply qk_in_ret|apply qk_in|apply qk_thn_exit|apply qk_in_exit|apply qk_round_ret|apply qk_round_exit)|((with_reducible apply ws);exact rfl;exact rfl)|((with_reducible apply wl_yes);exact rfl;exact rfl;exact rfl)|((with_reducible apply wl_no);exact rfl;exact rfl;exact rfl;exact rfl)|((with_reducible apply wl_noU);exact rfl;exact rfl;exact rfl)
          refine wc_no rfl rfl ?_
          repeat first|(with_reducible first|apply wc_seq|apply wc_region|apply wl_nil|apply qk_thn|apply wc_block|apply wc_skip|apply wc_ret|apply wc_exit|apply qk_thn_ret|apply qk_in_ret|apply qk_in|apply qk_thn_exit|apply qk_in_exit|apply qk_round_ret|apply qk_round_exit)|((with_reducible apply ws);exact rfl;exact rfl)|((with_reducible apply wl_yes);exact rfl;exact rfl;exact rfl)|((with_reducible apply wl_no);exact rfl;exact rfl;exact rfl;exact rfl)|((with_reducible apply wl_noU);exact rfl;exact rfl;exact rfl)
          refine wl_add rfl rfl rfl (r := ((i + 1 : Nat) : Int)) (by rw [IntKind.wrap_i64]; omega) ?_
          repeat first|(with_reducible first|apply wc_seq|apply wc_region|apply wl_nil|apply qk_thn|apply wc_block|apply wc_skip|apply wc_ret|apply wc_exit|apply qk_thn_ret|apply qk_in_ret|apply qk_in|apply qk_thn_exit|apply qk_in_exit|apply qk_round_ret|apply qk_round_exit)|((with_reducible apply ws);exact rfl;exact rfl)|((with_reducible apply wl_yes);exact rfl;exact rfl;exact rfl)|((with_reducible apply wl_no);exact rfl;exact rfl;exact rfl;exact rfl)|((with_reducible apply wl_noU);exact rfl;exact rfl;exact rfl)
          refine qk_round (i + 1) ⟨rfl, rfl, rfl, trivial⟩ ⟨by omega, ?_, hw3⟩ (by omega)
          rw [List.take_take, Nat.min_eq_left (by omega)]
          rw [List.take_take, Nat.min_eq_left (by omega)] at hall
          exact hall
      · refine wc_no rfl (by simpa using hlt) ?_
        repeat first|(with_reducible first|apply wc_seq|apply wc_region|apply wl_nil|apply qk_thn|apply wc_block|apply wc_skip|apply wc_ret|apply wc_exit|apply qk_thn_ret|apply qk_in_ret|apply qk_in|apply qk_thn_exit|apply qk_in_exit|apply qk_round_ret|apply qk_round_exit)|((with_reducible apply ws);exact rfl;exact rfl)|((with_reducible apply wl_yes);exact rfl;exact rfl;exact rfl)|((with_reducible apply wl_no);exact rfl;exact rfl;exact rfl;exact rfl)|((with_reducible apply wl_noU);exact rfl;exact rfl;exact rfl)
        refine qk_ret1 rfl rfl ⟨_, rfl, hw2.trans (hw3.mono (by omega)), ?_⟩
        have hi2 : i = t.s.length := by omega
        rw [hi2, List.take_length] at hall
        show Value.bool true = Value.bool _
        rw [hall]
    · refine wc_no rfl (by simpa using h7) ?_
      rw [if_neg h7]
      repeat first|(with_reducible first|apply wc_seq|apply wc_region|apply wl_nil|apply qk_thn|apply wc_block|apply wc_skip|apply wc_ret|apply wc_exit|apply qk_thn_ret|apply qk_in_ret|apply qk_in|apply qk_thn_exit|apply qk_in_exit|apply qk_round_ret|apply qk_round_exit)|((with_reducible apply ws);exact rfl;exact rfl)|((with_reducible apply wl_yes);exact rfl;exact rfl;exact rfl)|((with_reducible apply wl_no);exact rfl;exact rfl;exact rfl;exact rfl)|((with_reducible apply wl_noU);exact rfl;exact rfl;exact rfl)
      by_cases h89 : f.kind = 8 ∨ f.kind = 9
      · rw [if_pos h89]
        refine wc_cutT (α := Unit) (fun _ => [(36, .bool true), (2, .pointer (some ⟨w.heap.size, 0, none⟩)), (3, .pointer (some ⟨w1.heap.size, 0, none⟩))]) (fun _ w' => w' = w2) ?_ ?_
        · by_cases h8 : f.kind = 8
          · refine wc_yes rfl (by simpa using h8) ?_
            repeat first|(with_reducible first|apply wc_seq|apply wc_region|apply wl_nil|apply qk_thn|apply wc_block|apply wc_skip|apply wc_ret|apply wc_exit|apply qk_thn_ret|apply qk_in_ret|apply qk_in|apply qk_thn_exit|apply qk_in_exit|apply qk_round_ret|apply qk_round_exit)|((with_reducible apply ws);exact rfl;exact rfl)|((with_reducible apply wl_yes);exact rfl;exact rfl;exact rfl)|((with_reducible apply wl_no);exact rfl;exact rfl;exact rfl;exact rfl)|((with_reducible apply wl_noU);exact rfl;exact rfl;exact rfl)
            refine qk_cut () ⟨by rw [h8]; rfl, rfl, rfl, trivial⟩ rfl
          · have h9 : f.kind = 9 := by rcases h89 with h | h; exact absurd h h8; exact h
            refine wc_no rfl (by simpa using h8) ?_
            repeat first|(with_reducible first|apply wc_seq|apply wc_region|apply wl_nil|apply qk_thn|apply wc_block|apply wc_skip|apply wc_ret|apply wc_exit|apply qk_thn_ret|apply qk_in_ret|apply qk_in|apply qk_thn_exit|apply qk_in_exit|apply qk_round_ret|apply qk_round_exit)|((with_reducible apply ws);exact rfl;exact rfl)|((with_reducible apply wl_yes);exact rfl;exact rfl;exact rfl)|((with_reducible apply wl_no);exact rfl;exact rfl;exact rfl;exact rfl)|((with_reducible apply wl_noU);exact rfl;exact rfl;exact rfl)
            refine qk_cut () ⟨by rw [h9]; rfl, rfl, rfl, trivial⟩ rfl
        rintro _ w3 rfl
        refine wc_yes rfl rfl ?_
        repeat first|(with_reducible first|apply wc_seq|apply wc_region|apply wl_nil|apply qk_thn|apply wc_block|apply wc_skip|apply wc_ret|apply wc_exit|apply qk_thn_ret|apply qk_in_ret|apply qk_in|apply qk_thn_exit|apply qk_in_exit|apply qk_round_ret|apply qk_round_exit)|((with_reducible apply ws);exact rfl;exact rfl)|((with_reducible apply wl_yes);exact rfl;exact rfl;exact rfl)|((with_reducible apply wl_no);exact rfl;exact rfl;exact rfl;exact rfl)|((with_reducible apply wl_noU);exact rfl;exact rfl;exact rfl)
        refine wl_loadB rfl to_int rfl hb4 rfl ?_
        repeat first|(with_reducible first|apply wc_seq|apply wc_region|apply wl_nil|apply qk_thn|apply wc_block|apply wc_skip|apply wc_ret|apply wc_exit|apply qk_thn_ret|apply qk_in_ret|apply qk_in|apply qk_thn_exit|apply qk_in_exit|apply qk_round_ret|apply qk_round_exit)|((with_reducible apply ws);exact rfl;exact rfl)|((with_reducible apply wl_yes);exact rfl;exact rfl;exact rfl)|((with_reducible apply wl_no);exact rfl;exact rfl;exact rfl;exact rfl)|((with_reducible apply wl_noU);exact rfl;exact rfl;exact rfl)
        by_cases hnl : 0 ≤ f.nul
        · refine wc_yes rfl (by simpa using hnl) ?_
          rw [if_pos hnl]
          repeat first|(with_reducible first|apply wc_seq|apply wc_region|apply wl_nil|apply qk_thn|apply wc_block|apply wc_skip|apply wc_ret|apply wc_exit|apply qk_thn_ret|apply qk_in_ret|apply qk_in|apply qk_thn_exit|apply qk_in_exit|apply qk_round_ret|apply qk_round_exit)|((with_reducible apply ws);exact rfl;exact rfl)|((with_reducible apply wl_yes);exact rfl;exact rfl;exact rfl)|((with_reducible apply wl_no);exact rfl;exact rfl;exact rfl;exact rfl)|((with_reducible apply wl_noU);exact rfl;exact rfl;exact rfl)
          refine wl_loadB rfl to_bool rfl hb2 rfl ?_
          repeat first|(with_reducible first|apply wc_seq|apply wc_region|apply wl_nil|apply qk_thn|apply wc_block|apply wc_skip|apply wc_ret|apply wc_exit|apply qk_thn_ret|apply qk_in_ret|apply qk_in|apply qk_thn_exit|apply qk_in_exit|apply qk_round_ret|apply qk_round_exit)|((with_reducible apply ws);exact rfl;exact rfl)|((with_reducible apply wl_yes);exact rfl;exact rfl;exact rfl)|((with_reducible apply wl_no);exact rfl;exact rfl;exact rfl;exact rfl)|((with_reducible apply wl_noU);exact rfl;exact rfl;exact rfl)
          exact qk_ret1 rfl rfl ⟨_, rfl, hw2, rfl⟩
        · refine wc_no rfl (by simpa using hnl) ?_
          rw [if_neg hnl]
          repeat first|(with_reducible first|apply wc_seq|apply wc_region|apply wl_nil|apply qk_thn|apply wc_block|apply wc_skip|apply wc_ret|apply wc_exit|apply qk_thn_ret|apply qk_in_ret|apply qk_in|apply qk_thn_exit|apply qk_in_exit|apply qk_round_ret|apply qk_round_exit)|((with_reducible apply ws);exact rfl;exact rfl)|((with_reducible apply wl_yes);exact rfl;exact rfl;exact rfl)|((with_reducible apply wl_no);exact rfl;exact rfl;exact rfl;exact rfl)|((with_reducible apply wl_noU);exact rfl;exact rfl;exact rfl)
          refine wl_loadB rfl to_bytes rfl hb2 rfl ?_
          repeat first|(with_reducible first|apply wc_seq|apply wc_region|apply wl_nil|apply qk_thn|apply wc_block|apply wc_skip|apply wc_ret|apply wc_exit|apply qk_thn_ret|apply qk_in_ret|apply qk_in|apply qk_thn_exit|apply qk_in_exit|apply qk_round_ret|apply qk_round_exit)|((with_reducible apply ws);exact rfl;exact rfl)|((with_reducible apply wl_yes);exact rfl;exact rfl;exact rfl)|((with_reducible apply wl_no);exact rfl;exact rfl;exact rfl;exact rfl)|((with_reducible apply wl_noU);exact rfl;exact rfl;exact rfl)
          refine qk_ret1 rfl rfl ⟨_, rfl, hw2, ?_⟩
          show Value.bool _ = Value.bool _
          congr 1
          cases t.s <;> simp
          omega
      · rw [if_neg h89]
        have h8 : f.kind ≠ 8 := fun h => h89 (.inl h)
        have h9 : f.kind ≠ 9 := fun h => h89 (.inr h)
        refine wc_cutT (α := Unit) (fun _ => [(36, .bool false), (10, .int .i64 f.kind), (2, .pointer (some ⟨w.heap.size, 0, none⟩)), (3, .pointer (some ⟨w1.heap.size, 0, none⟩))]) (fun _ w' => w' = w2) ?_ ?_
        · refine wc_no rfl (by simpa using h8) ?_
          repeat first|(with_reducible first|apply wc_seq|apply wc_region|apply wl_nil|apply qk_thn|apply wc_block|apply wc_skip|apply wc_ret|apply wc_exit|apply qk_thn_ret|apply qk_in_ret|apply qk_in|apply qk_thn_exit|apply qk_in_exit|apply qk_round_ret|apply qk_round_exit)|((with_reducible apply ws);exact rfl;exact rfl)|((with_reducible apply wl_yes);exact rfl;exact rfl;exact rfl)|((with_reducible apply wl_no);exact rfl;exact rfl;exact rfl;exact rfl)|((with_reducible apply wl_noU);exact rfl;exact rfl;exact rfl)
          refine qk_cut () ⟨?_, rfl, rfl, rfl, trivial⟩ rfl
          show some (Value.bool (f.kind == 9)) = some (Value.bool false)
          rw [show (f.kind == 9) = false from by simpa using h9]
        rintro _ w3 h3
        obtain rfl := h3.symm
        refine wc_no rfl rfl ?_
        repeat first|(with_reducible first|apply wc_seq|apply wc_region|apply wl_nil|apply qk_thn|apply wc_block|apply wc_skip|apply wc_ret|apply wc_exit|apply qk_thn_ret|apply qk_in_ret|apply qk_in|apply qk_thn_exit|apply qk_in_exit|apply qk_round_ret|apply qk_round_exit)|((with_reducible apply ws);exact rfl;exact rfl)|((with_reducible apply wl_yes);exact rfl;exact rfl;exact rfl)|((with_reducible apply wl_no);exact rfl;exact rfl;exact rfl;exact rfl)|((with_reducible apply wl_noU);exact rfl;exact rfl;exact rfl)
        by_cases h11 : f.kind = 11
        · refine wc_yes rfl (by simpa using h11) ?_
          rw [if_pos h11]
          repeat first|(with_reducible first|apply wc_seq|apply wc_region|apply wl_nil|apply qk_thn|apply wc_block|apply wc_skip|apply wc_ret|apply wc_exit|apply qk_thn_ret|apply qk_in_ret|apply qk_in|apply qk_thn_exit|apply qk_in_exit|apply qk_round_ret|apply qk_round_exit)|((with_reducible apply ws);exact rfl;exact rfl)|((with_reducible apply wl_yes);exact rfl;exact rfl;exact rfl)|((with_reducible apply wl_no);exact rfl;exact rfl;exact rfl;exact rfl)|((with_reducible apply wl_noU);exact rfl;exact rfl;exact rfl)
          refine wl_loadB rfl to_trees rfl hb2 rfl ?_
          repeat first|(with_reducible first|apply wc_seq|apply wc_region|apply wl_nil|apply qk_thn|apply wc_block|apply wc_skip|apply wc_ret|apply wc_exit|apply qk_thn_ret|apply qk_in_ret|apply qk_in|apply qk_thn_exit|apply qk_in_exit|apply qk_round_ret|apply qk_round_exit)|((with_reducible apply ws);exact rfl;exact rfl)|((with_reducible apply wl_yes);exact rfl;exact rfl;exact rfl)|((with_reducible apply wl_no);exact rfl;exact rfl;exact rfl;exact rfl)|((with_reducible apply wl_noU);exact rfl;exact rfl;exact rfl)
          refine qk_ret1 rfl rfl ⟨_, rfl, hw2, ?_⟩
          show Value.bool _ = Value.bool _
          congr 1
          cases t.l <;> simp
          omega
        · refine wc_no rfl (by simpa using h11) ?_
          rw [if_neg h11]
          repeat first|(with_reducible first|apply wc_seq|apply wc_region|apply wl_nil|apply qk_thn|apply wc_block|apply wc_skip|apply wc_ret|apply wc_exit|apply qk_thn_ret|apply qk_in_ret|apply qk_in|apply qk_thn_exit|apply qk_in_exit|apply qk_round_ret|apply qk_round_exit)|((with_reducible apply ws);exact rfl;exact rfl)|((with_reducible apply wl_yes);exact rfl;exact rfl;exact rfl)|((with_reducible apply wl_no);exact rfl;exact rfl;exact rfl;exact rfl)|((with_reducible apply wl_noU);exact rfl;exact rfl;exact rfl)
          by_cases h10 : f.kind = 10
          · refine wc_yes rfl (by simpa using h10) ?_
            rw [if_pos h10]
            repeat first|(with_reducible first|apply wc_seq|apply wc_region|apply wl_nil|apply qk_thn|apply wc_block|apply wc_skip|apply wc_ret|apply wc_exit|apply qk_thn_ret|apply qk_in_ret|apply qk_in|apply qk_thn_exit|apply qk_in_exit|apply qk_round_ret|apply qk_round_exit)|((with_reducible apply ws);exact rfl;exact rfl)|((with_reducible apply wl_yes);exact rfl;exact rfl;exact rfl)|((with_reducible apply wl_no);exact rfl;exact rfl;exact rfl;exact rfl)|((with_reducible apply wl_noU);exact rfl;exact rfl;exact rfl)
            refine wl_loadB rfl to_flds rfl hb4 rfl ?_
            obtain ⟨fa, fc, rfl, _⟩ := hsub.shape
            rw [List.length_map] at *
            repeat first|(with_reducible first|apply wc_seq|apply wc_region|apply wl_nil|apply qk_thn|apply wc_block|apply wc_skip|apply wc_ret|apply wc_exit|apply qk_thn_ret|apply qk_in_ret|apply qk_in|apply qk_thn_exit|apply qk_in_exit|apply qk_round_ret|apply qk_round_exit)|((with_reducible apply ws);exact rfl;exact rfl)|((with_reducible apply wl_yes);exact rfl;exact rfl;exact rfl)|((with_reducible apply wl_no);exact rfl;exact rfl;exact rfl;exact rfl)|((with_reducible apply wl_noU);exact rfl;exact rfl;exact rfl)
            refine wc_loop (α := Nat) (fun i => [(59, .int .i64 (i : Int)), (58, .int .i64 (f.sub.length : Int)), (57, .slice fa f.sub.length fc), (2, .pointer (some ⟨w.heap.size, 0, none⟩)), (3, .pointer (some ⟨w1.heap.size, 0, none⟩))]) (fun i w' => i ≤ f.sub.length ∧ usuals f.sub 0 t = usuals (f.sub.drop i) i t ∧ Below w2.heap.size w2 w') (fun i => f.sub.length - i) 0 ⟨rfl, rfl, rfl, rfl, rfl, trivial⟩ ⟨Nat.zero_le _, rfl, Below.refl _ _⟩ ?_
            rintro i w3 ⟨hi, hall, hw3⟩
            have hfl := fsok.len hsubOK
            have hw03 : Below w.heap.size w w3 := hw2.trans (hw3.mono (by omega))
            have hB3 : B ≤ w3.heap.size := by have := hw3.size; omega
            have hs23 := hw3.size
            repeat first|(with_reducible first|apply wc_seq|apply wc_region|apply wl_nil|apply qk_thn|apply wc_block|apply wc_skip|apply wc_ret|apply wc_exit|apply qk_thn_ret|apply qk_in_ret|apply qk_in|apply qk_thn_exit|apply qk_in_exit|apply qk_round_ret|apply qk_round_exit)|((with_reducible apply ws);exact rfl;exact rfl)|((with_reducible apply wl_yes);exact rfl;exact rfl;exact rfl)|((with_reducible apply wl_no);exact rfl;exact rfl;exact rfl;exact rfl)|((with_reducible apply wl_noU);exact rfl;exact rfl;exact rfl)
            by_cases hlt : i < f.sub.length
            · refine wc_yes rfl (by simpa using hlt) ?_
              obtain ⟨b, off, c', cs, hv, _, hcs, hlen, hr⟩ := (hsub.below (hw03.mono hB) (Nat.le_refl _)).get (sz := 8) (i := i) (by intro d hd; obtain ⟨x, _, rfl⟩ := List.mem_map.1 hd; exact fldD_width x) (by simpa using hlt)
              simp only [Value.slice.injEq, List.length_map] at hv
              obtain ⟨rfl, _, rfl⟩ := hv
              simp only [List.getElem_map] at hr
              obtain ⟨hone, _⟩ := fld_one hr
              repeat first|(with_reducible first|apply wc_seq|apply wc_region|apply wl_nil|apply qk_thn|apply wc_block|apply wc_skip|apply wc_ret|apply wc_exit|apply qk_thn_ret|apply qk_in_ret|apply qk_in|apply qk_thn_exit|apply qk_in_exit|apply qk_round_ret|apply qk_round_exit)|((with_reducible apply ws);exact rfl;exact rfl)|((with_reducible apply wl_yes);exact rfl;exact rfl;exact rfl)|((with_reducible apply wl_no);exact rfl;exact rfl;exact rfl;exact rfl)|((with_reducible apply wl_noU);exact rfl;exact rfl;exact rfl)
              refine wl_indexAddr rfl rfl es_flds rfl hlt ?_
              refine wl_loadAgg rfl (by rw [hlen]; exact ta_fld) rfl (fun j v e => hcs.cell e) ?_
              refine wl_alloc zv_fld rfl rfl (fun w4 hbx4 hg4 hs4 => ?_)
              repeat first|(with_reducible first|apply wc_seq|apply wc_region|apply wl_nil|apply qk_thn|apply wc_block|apply wc_skip|apply wc_ret|apply wc_exit|apply qk_thn_ret|apply qk_in_ret|apply qk_in|apply qk_thn_exit|apply qk_in_exit|apply qk_round_ret|apply qk_round_exit)|((with_reducible apply ws);exact rfl;exact rfl)|((with_reducible apply wl_yes);exact rfl;exact rfl;exact rfl)|((with_reducible apply wl_no);exact rfl;exact rfl;exact rfl;exact rfl)|((with_reducible apply wl_noU);exact rfl;exact rfl;exact rfl)
              refine wl_storeBAgg rfl rfl rfl (by rw [hlen]; exact tz_fld) hone hbx4 (by rw [hlen]; rfl) (fun w5 hbx5 hg5 hs5 => ?_)
              have hw35 : Below w3.heap.size w3 w5 := (below_of hg4 (Nat.le_refl _) (by simp)).trans (below_of hg5 (by omega) (by intro k hk; simp at hk; omega))
              have hw05 : Below w.heap.size w w5 := hw03.trans (hw35.mono (by omega))
              have hw25 : Below w2.heap.size w2 w5 := hw3.trans (hw35.mono (by omega))
              repeat first|(with_reducible first|apply wc_seq|apply wc_region|apply wl_nil|apply qk_thn|apply wc_block|apply wc_skip|apply wc_ret|apply wc_exit|apply qk_thn_ret|apply qk_in_ret|apply qk_in|apply qk_thn_exit|apply qk_in_exit|apply qk_round_ret|apply qk_round_exit)|((with_reducible apply ws);exact rfl;exact rfl)|((with_reducible apply wl_yes);exact rfl;exact rfl;exact rfl)|((with_reducible apply wl_no);exact rfl;exact rfl;exact rfl;exact rfl)|((with_reducible apply wl_noU);exact rfl;exact rfl;exact rfl)
              refine wc_par [(0, .agg cs.toArray), (1, .agg ([.int .i64 t.n, .slice sa t.s.length sc, .bool t.nul, .slice la t.l.length lc, uv] : List Value).toArray), (2, .int .i64 (i : Int))] [5, 4, 3]
                (fun vals w' => Below w5.heap.size w5 w' ∧ match vals with
                  | [] => True
                  | [v] => ∃ xs : List Value, v = .agg xs.toArray ∧ Rep (Lo B) w' (treeD (att t i)) xs
                  | [v, _] => v = .bool (usual f.sub[i] (att t i))
                  | v :: _ => v = .bool (!usual f.sub[i] (att t i)))
                mixed rfl rfl rfl rfl rfl (by show ([0,1,2] : List Nat).Nodup; decide) rfl rfl (by decide) rfl rfl rfl rfl ⟨(Below.refl _ w5).drew, trivial⟩ ?_ ⟨?_, ?_, ?_, trivial⟩ ?_
              · intro p hp vals w' hC a k
                simp only [List.mem_cons, List.not_mem_nil, or_false] at hp
                rcases hp with rfl | rfl | rfl
                · exact gv rfl rfl (rn_loadBAgg k rfl (by rw [hlen]; exact ta_fld) (hbx5.below hC.1 (by omega)))
                · exact gv rfl rfl (rn_loadBAgg k rfl (by rw [show ([.int .i64 t.n, .slice sa t.s.length sc, .bool t.nul, .slice la t.l.length lc, uv] : List Value).length = 5 from rfl]; exact ta_tree) (by have := hbt _ (hw25.trans (hC.1.mono (by omega))); rw [List.length_map] at this; exact this))
                · exact gv rfl rfl (rn_move k rfl)
              · rintro vals w' hvl ⟨hb', hC⟩ a k
                match vals, hvl with
                | [v4, v3], _ =>
                  simp only [] at hC
                  subst hC
                  exact ⟨_, rfl, does_not k rfl ⟨hb', rfl⟩⟩
              · rintro vals w' hvl ⟨hb', hC⟩ a k
                match vals, hvl with
                | [v3], _ =>
                  obtain ⟨xs, rfl, hxr⟩ := hC
                  refine ⟨_, rfl, does_call k rfl (by kernel_rfl) ((hu f.sub[i] (List.getElem_mem hlt) (att t i) B w' _ _ (hok.at i) (by have := hb'.size; omega) (Rep.below hr ((hw35.trans (hb'.mono (by omega))).mono hB3) (Nat.le_refl _)) hxr).mono ?_)⟩
                  rintro e w'' ⟨v, rfl, hb'', rfl⟩
                  exact ⟨_, rfl, hb'.trans (hb''.mono hb'.size), rfl⟩
              · rintro vals w' hvl ⟨hb', hC⟩ a k
                match vals, hvl with
                | [], _ =>
                  refine ⟨_, rfl, does_call k rfl (by kernel_rfl) ((fn_at t i B w' (by have := hb'.size; omega) _ (by have := Rep.below ht ((hw05.trans (hb'.mono (by omega))).mono hB) (Nat.le_refl _); rw [List.length_map] at this; exact this)).mono ?_)⟩
                  rintro e w'' ⟨v, rfl, hb'', xs, rfl, hxr⟩
                  exact ⟨_, rfl, hb'.trans (hb''.mono hb'.size), xs, rfl, hxr⟩
              · rintro vals w' hvl ⟨hb', hC⟩
                match vals, hvl with
                | [v5, v4, v3], _ =>
                  simp only [] at hC
                  subst hC
                  refine qk_thn ?_
                  have hdr := usuals_drop f.sub t hlt
                  cases hus : usual f.sub[i] (att t i)
                  · refine wc_yes rfl rfl ?_
                    repeat first|(with_reducible first|apply wc_seq|apply wc_region|apply wl_nil|apply qk_thn|apply wc_block|apply wc_skip|apply wc_ret|apply wc_exit|apply qk_thn_ret|apply qk_in_ret|apply qk_in|apply qk_thn_exit|apply qk_in_exit|apply qk_round_ret|apply qk_round_exit)|((with_reducible apply ws);exact rfl;exact rfl)|((with_reducible apply wl_yes);exact rfl;exact rfl;exact rfl)|((with_reducible apply wl_no);exact rfl;exact rfl;exact rfl;exact rfl)|((with_reducible apply wl_noU);exact rfl;exact rfl;exact rfl)
                    refine qk_ret1 rfl rfl ⟨_, rfl, hw05.trans (hb'.mono (by omega)), ?_⟩
                    rw [hall, hdr, hus]; simp
                  · refine wc_no rfl rfl ?_
                    repeat first|(with_reducible first|apply wc_seq|apply wc_region|apply wl_nil|apply qk_thn|apply wc_block|apply wc_skip|apply wc_ret|apply wc_exit|apply qk_thn_ret|apply qk_in_ret|apply qk_in|apply qk_thn_exit|apply qk_in_exit|apply qk_round_ret|apply qk_round_exit)|((with_reducible apply ws);exact rfl;exact rfl)|((with_reducible apply wl_yes);exact rfl;exact rfl;exact rfl)|((with_reducible apply wl_no);exact rfl;exact rfl;exact rfl;exact rfl)|((with_reducible apply wl_noU);exact rfl;exact rfl;exact rfl)
                    refine wl_add rfl rfl rfl (r := ((i + 1 : Nat) : Int)) (by rw [IntKind.wrap_i64]; omega) ?_
                    repeat first|(with_reducible first|apply wc_seq|apply wc_region|apply wl_nil|apply qk_thn|apply wc_block|apply wc_skip|apply wc_ret|apply wc_exit|apply qk_thn_ret|apply qk_in_ret|apply qk_in|apply qk_thn_exit|apply qk_in_exit|apply qk_round_ret|apply qk_round_exit)|((with_reducible apply ws);exact rfl;exact rfl)|((with_reducible apply wl_yes);exact rfl;exact rfl;exact rfl)|((with_reducible apply wl_no);exact rfl;exact rfl;exact rfl;exact rfl)|((with_reducible apply wl_noU);exact rfl;exact rfl;exact rfl)
                    refine qk_round (i + 1) ⟨rfl, rfl, rfl, rfl, rfl, trivial⟩ ⟨by omega, ?_, hw25.trans (hb'.mono (by omega))⟩ (by omega)
                    rw [hall, hdr, hus]; simp
            · refine wc_no rfl (by simpa using hlt) ?_
              repeat first|(with_reducible first|apply wc_seq|apply wc_region|apply wl_nil|apply qk_thn|apply wc_block|apply wc_skip|apply wc_ret|apply wc_exit|apply qk_thn_ret|apply qk_in_ret|apply qk_in|apply qk_thn_exit|apply qk_in_exit|apply qk_round_ret|apply qk_round_exit)|((with_reducible apply ws);exact rfl;exact rfl)|((with_reducible apply wl_yes);exact rfl;exact rfl;exact rfl)|((with_reducible apply wl_no);exact rfl;exact rfl;exact rfl;exact rfl)|((with_reducible apply wl_noU);exact rfl;exact rfl;exact rfl)
              refine wl_loadB rfl to_flds rfl (hbf _ hw3) rfl ?_
              repeat first|(with_reducible first|apply wc_seq|apply wc_region|apply wl_nil|apply qk_thn|apply wc_block|apply wc_skip|apply wc_ret|apply wc_exit|apply qk_thn_ret|apply qk_in_ret|apply qk_in|apply qk_thn_exit|apply qk_in_exit|apply qk_round_ret|apply qk_round_exit)|((with_reducible apply ws);exact rfl;exact rfl)|((with_reducible apply wl_yes);exact rfl;exact rfl;exact rfl)|((with_reducible apply wl_no);exact rfl;exact rfl;exact rfl;exact rfl)|((with_reducible apply wl_noU);exact rfl;exact rfl;exact rfl)
              refine wl_loadB rfl to_tags rfl (hbt _ hw3) rfl ?_
              refine wl_call rfl (by kernel_rfl) rfl ((fn_unknown _ _ f.sub t.u B w3 hB3 (hsub.below (hw03.mono hB) (Nat.le_refl _)) (huu.below (hw03.mono hB) (Nat.le_refl _)) (fsok.tag hsubOK) (by omega)).mono ?_)
              rintro e w4 ⟨v, rfl, hw4, hsq⟩
              refine ⟨_, rfl, ?_⟩
              obtain ⟨va, vc, rfl, _⟩ := hsq.shape
              rw [List.length_map]
              repeat first|(with_reducible first|apply wc_seq|apply wc_region|apply wl_nil|apply qk_thn|apply wc_block|apply wc_skip|apply wc_ret|apply wc_exit|apply qk_thn_ret|apply qk_in_ret|apply qk_in|apply qk_thn_exit|apply qk_in_exit|apply qk_round_ret|apply qk_round_exit)|((with_reducible apply ws);exact rfl;exact rfl)|((with_reducible apply wl_yes);exact rfl;exact rfl;exact rfl)|((with_reducible apply wl_no);exact rfl;exact rfl;exact rfl;exact rfl)|((with_reducible apply wl_noU);exact rfl;exact rfl;exact rfl)
              refine qk_ret1 rfl rfl ⟨_, rfl, hw03.trans (hw4.mono hw03.size), ?_⟩
              show Value.bool _ = Value.bool _
              congr 1
              rw [hall, List.drop_of_length_le (by omega)]
              simp only [usuals, Bool.true_and]
              cases unknown f.sub t.u <;> simp
              omega
          · refine wc_no rfl (by simpa using h10) ?_
            rw [if_neg h10]
            repeat first|(with_reducible first|apply wc_seq|apply wc_region|apply wl_nil|apply qk_thn|apply wc_block|apply wc_skip|apply wc_ret|apply wc_exit|apply qk_thn_ret|apply qk_in_ret|apply qk_in|apply qk_thn_exit|apply qk_in_exit|apply qk_round_ret|apply qk_round_exit)|((with_reducible apply ws);exact rfl;exact rfl)|((with_reducible apply wl_yes);exact rfl;exact rfl;exact rfl)|((with_reducible apply wl_no);exact rfl;exact rfl;exact rfl;exact rfl)|((with_reducible apply wl_noU);exact rfl;exact rfl;exact rfl)
            refine wc_par [(0, .pointer (some ⟨w1.heap.size, 0 + 0, none⟩)), (1, .int .i64 t.n), (2, .pointer (some ⟨w.heap.size, 0 + 0, none⟩)), (3, .int .i64 f.kind), (6, .pointer (some ⟨w.heap.size, 0 + 5, none⟩)), (7, .int .i64 f.df), (8, .pointer (some ⟨w.heap.size, 0 + 0, none⟩)), (9, .int .i64 f.kind)] [13, 12, 11, 10, 5, 4]
              (fun vals w' => Below w2.heap.size w2 w' ∧ match vals with
                | [] => True
                | [v4] => v4 = .int .i64 (width f.kind : Nat)
                | [v5, _] => Own w' w2.heap.size 5 v5 (be (width f.kind) t.n)
                | [v10, v5, _] => Own w' w2.heap.size 5 v5 (be (width f.kind) t.n) ∧ v10 = .int .i64 (width f.kind : Nat)
                | [v11, _, v5, _] => Own w' w2.heap.size 5 v5 (be (width f.kind) t.n) ∧ Own w' w2.heap.size 5 v11 (be (width f.kind) f.df)
                | v :: _ => v = .bool (be (width f.kind) t.n == be (width f.kind) f.df))
              mixed rfl rfl rfl rfl rfl (by show ([0,1,2,3,6,7,8,9] : List Nat).Nodup; decide) rfl rfl (by decide) rfl rfl rfl rfl ⟨(Below.refl _ w2).drew, trivial⟩ ?_ ⟨?_, ?_, ?_, ?_, ?_, ?_, trivial⟩ ?_
            · intro p hp vals w' hC a k
              simp only [List.mem_cons, List.not_mem_nil, or_false] at hp
              rcases hp with rfl | rfl | rfl | rfl | rfl | rfl | rfl | rfl
              · exact gv rfl rfl (rn_fieldAddr k rfl fo_tree0)
              · exact gv rfl rfl (rn_load k rfl to_i64 ((hbt _ hC.1).cell0 (i := 0) rfl))
              · exact gv rfl rfl (rn_fieldAddr k rfl fo_fld0)
              · exact gv rfl rfl (rn_load k rfl to_int ((hbf _ hC.1).cell0 (i := 0) rfl))
              · exact gv rfl rfl (rn_fieldAddr k rfl fo_fld5)
              · exact gv rfl rfl (rn_load k rfl to_i64 ((hbf _ hC.1).cell0 (i := 5) rfl))
              · exact gv rfl rfl (rn_fieldAddr k rfl fo_fld0)
              · exact gv rfl rfl (rn_load k rfl to_int ((hbf _ hC.1).cell0 (i := 0) rfl))
            · rintro vals w' hvl ⟨hb', hC⟩ a k
              match vals, hvl with
              | [v12, v11, v10, v5, v4], _ => exact ⟨_, rfl, does_assign k rfl ⟨hb', hC⟩⟩
            · rintro vals w' hvl ⟨hb', hC⟩ a k
              match vals, hvl with
              | [v11, v10, v5, v4], _ =>
                obtain ⟨ho5, ho11⟩ := hC
                refine ⟨_, rfl, does_call k rfl (by kernel_rfl) ((fn_same _ _ _ _ w' ho5.bytes ho11.bytes (by rw [be_length]; exact Nat.le_trans (width_le _) (by decide)) (by rw [be_length]; exact Nat.le_trans (width_le _) (by decide))).mono ?_)⟩
                rintro e w'' ⟨v, rfl, hb'', rfl⟩
                exact ⟨_, rfl, hb'.trans (hb''.mono hb'.size), rfl⟩
            · rintro vals w' hvl ⟨hb', hC⟩ a k
              match vals, hvl with
              | [v10, v5, v4], _ =>
                obtain ⟨ho5, rfl⟩ := hC
                refine ⟨_, rfl, does_call k rfl (by kernel_rfl) ((fn_fixed f.df (width f.kind) (width_le _) w').mono ?_)⟩
                rintro e w'' ⟨v, rfl, hb'', ho⟩
                exact ⟨_, rfl, hb'.trans (hb''.mono hb'.size), ho5.below hb'', ho.mono hb'.size⟩
            · rintro vals w' hvl ⟨hb', hC⟩ a k
              match vals, hvl with
              | [v5, v4], _ =>
                simp only [] at hC
                refine ⟨_, rfl, does_call k rfl (by kernel_rfl) ((fn_width f.kind w').mono ?_)⟩
                rintro e w'' ⟨v, rfl, hb'', rfl, rfl⟩
                exact ⟨_, rfl, hb', hC, rfl⟩
            · rintro vals w' hvl ⟨hb', hC⟩ a k
              match vals, hvl with
              | [v4], _ =>
                simp only [] at hC
                subst hC
                refine ⟨_, rfl, does_call k rfl (by kernel_rfl) ((fn_fixed t.n (width f.kind) (width_le _) w').mono ?_)⟩
                rintro e w'' ⟨v, rfl, hb'', ho⟩
                exact ⟨_, rfl, hb'.trans (hb''.mono hb'.size), ho.mono hb'.size⟩
            · rintro vals w' hvl ⟨hb', hC⟩ a k
              match vals, hvl with
              | [], _ =>
                refine ⟨_, rfl, does_call k rfl (by kernel_rfl) ((fn_width f.kind w').mono ?_)⟩
                rintro e w'' ⟨v, rfl, hb'', rfl, rfl⟩
                exact ⟨_, rfl, hb', rfl⟩
            · rintro vals w' hvl ⟨hb', hC⟩
              match vals, hvl with
              | [v13, v12, v11, v10, v5, v4], _ =>
                simp only [] at hC
                subst hC
                refine qk_thn ?_
                repeat first|(with_reducible first|apply wc_seq|apply wc_region|apply wl_nil|apply qk_thn|apply wc_block|apply wc_skip|apply wc_ret|apply wc_exit|apply qk_thn_ret|apply qk_in_ret|apply qk_in|apply qk_thn_exit|apply qk_in_exit|apply qk_round_ret|apply qk_round_exit)|((with_reducible apply ws);exact rfl;exact rfl)|((with_reducible apply wl_yes);exact rfl;exact rfl;exact rfl)|((with_reducible apply wl_no);exact rfl;exact rfl;exact rfl;exact rfl)|((with_reducible apply wl_noU);exact rfl;exact rfl;exact rfl)
                exact qk_ret1 rfl rfl ⟨_, rfl, hw2.trans (hb'.mono (by omega)), rfl⟩
end
end Go.Proofs.Ytaoecdeljfdmeaa
