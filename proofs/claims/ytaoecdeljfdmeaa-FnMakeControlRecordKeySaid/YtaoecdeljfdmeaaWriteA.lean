/- What the reference writes of a value and of a field, given what it writes of a part. -/
import Derived.Test.YtaoecdeljfdmeaaSpecC
import Derived.Test.YtaoecdeljfdmeaaVal
import Derived.Test.YtaoecdeljfdmeaaOkay
namespace Go.Proofs.Ytaoecdeljfdmeaa
open Go Go.RowKit

theorem Own.below {w w' : World} {B u8 : Nat} {d : Value} {xs : List UInt8} (h : Own w B u8 d xs) (hb : Below w.heap.size w w') : Own w' B u8 d xs := by
  refine h.kept (grown_of hb) ?_
  cases hd : d.ownBlock with
  | none => exact .inl rfl
  | some g => exact .inr (by simp)
/-- What is owned is a slice of octets. -/
theorem Own.bytes {w : World} {B u8 : Nat} {d : Value} {xs : List UInt8} (h : Own w B u8 d xs) : BytesAt w d xs := by
  by_cases hn : 0 < xs.length
  · obtain ⟨g, cap, rfl, _, _, hc⟩ := Row.cells h hn
    exact .inr ⟨g, 0, cap, rfl, hc⟩
  · have h0 : xs = [] := List.length_eq_zero_iff.1 (by omega)
    subst h0
    obtain ⟨hxl, ⟨rfl, _⟩ | ⟨g, cap, cur, rfl, hBg, hheap, hle, hcap, hcs, htake⟩⟩ := h
    · exact .inl ⟨none, 0, rfl, rfl⟩
    · exact .inr ⟨g, 0, cap, rfl, cur, u8, (0, 0), hheap, by simp [bv], by simp [bv]⟩

def u8T : Nat := 5
theorem zero_u8 : (Try.prog.info? 5).bind (·.zero) = some (.int .u8 0) := by kernel_rfl

def PartOK (fs : List Fld) : Prop := ∀ (flex : Bool) (ver : Int) (t : Tree) (B : Nat) (w : World) (fv : Value) (ts : List Value), t.ok → B ≤ w.heap.size → Sq B w fv (fs.map fldD) → Rep (Lo B) w (treeD t) ts → (wPart ver flex fs t).length ≤ lim →
  Fn 34 [fv, .int .i64 ver, .bool flex, .agg ts.toArray] w fun v w' => Own w' w.heap.size 5 v (wPart ver flex fs t)
def ValueOK (kind : Int) (sub : List Fld) : Prop := ∀ (null flex : Bool) (ver : Int) (t : Tree) (B : Nat) (w : World) (fv : Value) (ts : List Value), t.ok → B ≤ w.heap.size → Sq B w fv (sub.map fldD) → Rep (Lo B) w (treeD t) ts → (wVal kind flex null (wPart ver flex sub) t).length ≤ lim →
  Fn 70 [.int .i64 kind, fv, .bool null, .int .i64 ver, .bool flex, .agg ts.toArray] w fun v w' => Own w' w.heap.size 5 v (wVal kind flex null (wPart ver flex sub) t)
def FieldOK (f : Fld) : Prop := ∀ (flex : Bool) (ver : Int) (t : Tree) (B : Nat) (w : World) (cs ts : List Value), t.ok → B ≤ w.heap.size → Rep (Lo B) w (fldD f) cs → Rep (Lo B) w (treeD t) ts → (wField ver flex f t).length ≤ lim →
  Fn 57 [.agg cs.toArray, .int .i64 ver, .bool flex, .agg ts.toArray] w fun v w' => Own w' w.heap.size 5 v (wField ver flex f t)

theorem whole_map (s : List UInt8) : (s.map byteD).take Most = (whole s).map byteD := by simp [whole]
theorem counted_len (flex null : Bool) (n size : Nat) (hn : n < 18446744073709551615) (hs : size ≤ 8) : (counted flex null n size).length ≤ 11 := by
  unfold counted
  split
  · split
    · simp
    · exact uvar_len_le 10 _ (Nat.lt_of_lt_of_le (show n + 1 < 18446744073709551616 by omega) (by decide))
  · split <;> simp [be_length] <;> omega

theorem width_le (k : Int) : width k ≤ 8 := by
  unfold width
  split
  · omega
  · split
    · omega
    · split <;> omega

section
set_option maxRecDepth 100000
theorem value_of (kind : Int) (sub : List Fld) (hp : PartOK sub) : ValueOK kind sub := by
  intro null flex ver t B w fv ts hok hB hf ht hlim
  obtain ⟨sv, lv, uv, rfl, hs, _, _⟩ := tree_cells ht
  obtain ⟨sa, sc, rfl, _⟩ := hs.shape
  refine enter Try.func70 rfl Try.ntmps70 rfl ?_
  repeat first|(with_reducible first|apply wc_seq|apply wc_region|apply wl_nil|apply qk_thn|apply wc_block|apply wc_skip|apply wc_ret|apply wc_exit|apply qk_thn_ret|apply qk_in_ret|apply qk_in|apply qk_thn_exit|apply qk_in_exit|apply qk_round_ret|apply qk_round_exit)|((with_reducible apply ws);exact rfl;exact rfl)|((with_reducible apply wl_yes);exact rfl;exact rfl;exact rfl)|((with_reducible apply wl_no);exact rfl;exact rfl;exact rfl;exact rfl)|((with_reducible apply wl_noU);exact rfl;exact rfl;exact rfl)
  refine wl_box1 rfl rfl rfl (fun w1 hb hg hsz => ?_)
  have hw1 : Below w.heap.size w w1 := below_of hg (Nat.le_refl _) (by simp)
  have hB1 : B ≤ w1.heap.size := by omega
  repeat first|(with_reducible first|apply wc_seq|apply wc_region|apply wl_nil|apply qk_thn|apply wc_block|apply wc_skip|apply wc_ret|apply wc_exit|apply qk_thn_ret|apply qk_in_ret|apply qk_in|apply qk_thn_exit|apply qk_in_exit|apply qk_round_ret|apply qk_round_exit)|((with_reducible apply ws);exact rfl;exact rfl)|((with_reducible apply wl_yes);exact rfl;exact rfl;exact rfl)|((with_reducible apply wl_no);exact rfl;exact rfl;exact rfl;exact rfl)|((with_reducible apply wl_noU);exact rfl;exact rfl;exact rfl)
  by_cases h0 : kind = 0
  · subst h0
    refine wc_yes rfl (by decide) ?_
    repeat first|(with_reducible first|apply wc_seq|apply wc_region|apply wl_nil|apply qk_thn|apply wc_block|apply wc_skip|apply wc_ret|apply wc_exit|apply qk_thn_ret|apply qk_in_ret|apply qk_in|apply qk_thn_exit|apply qk_in_exit|apply qk_round_ret|apply qk_round_exit)|((with_reducible apply ws);exact rfl;exact rfl)|((with_reducible apply wl_yes);exact rfl;exact rfl;exact rfl)|((with_reducible apply wl_no);exact rfl;exact rfl;exact rfl;exact rfl)|((with_reducible apply wl_noU);exact rfl;exact rfl;exact rfl)
    refine wl_loadB rfl to_i64 rfl hb rfl ?_
    refine wl_and rfl rfl rfl (and1 t.n) ?_
    refine wl_conv .u8 rfl ti_l64 ti_u8 rfl (wrap_bit _) ?_
    refine wl_lit tb_bytes rfl (ys := [lowByte (t.n % 2)]) rfl rfl rfl rfl (fun w2 ho hb2 => ?_)
    repeat first|(with_reducible first|apply wc_seq|apply wc_region|apply wl_nil|apply qk_thn|apply wc_block|apply wc_skip|apply wc_ret|apply wc_exit|apply qk_thn_ret|apply qk_in_ret|apply qk_in|apply qk_thn_exit|apply qk_in_exit|apply qk_round_ret|apply qk_round_exit)|((with_reducible apply ws);exact rfl;exact rfl)|((with_reducible apply wl_yes);exact rfl;exact rfl;exact rfl)|((with_reducible apply wl_no);exact rfl;exact rfl;exact rfl;exact rfl)|((with_reducible apply wl_noU);exact rfl;exact rfl;exact rfl)
    exact qk_ret1 rfl rfl ⟨_, rfl, hw1.trans (hb2.mono (by omega)), by simpa [wVal] using ho.mono (by omega)⟩
  · refine wc_no rfl (by simpa using h0) ?_
    repeat first|(with_reducible first|apply wc_seq|apply wc_region|apply wl_nil|apply qk_thn|apply wc_block|apply wc_skip|apply wc_ret|apply wc_exit|apply qk_thn_ret|apply qk_in_ret|apply qk_in|apply qk_thn_exit|apply qk_in_exit|apply qk_round_ret|apply qk_round_exit)|((with_reducible apply ws);exact rfl;exact rfl)|((with_reducible apply wl_yes);exact rfl;exact rfl;exact rfl)|((with_reducible apply wl_no);exact rfl;exact rfl;exact rfl;exact rfl)|((with_reducible apply wl_noU);exact rfl;exact rfl;exact rfl)
    by_cases h7 : kind = 7
    · subst h7
      refine wc_yes rfl (by decide) ?_
      repeat first|(with_reducible first|apply wc_seq|apply wc_region|apply wl_nil|apply qk_thn|apply wc_block|apply wc_skip|apply wc_ret|apply wc_exit|apply qk_thn_ret|apply qk_in_ret|apply qk_in|apply qk_thn_exit|apply qk_in_exit|apply qk_round_ret|apply qk_round_exit)|((with_reducible apply ws);exact rfl;exact rfl)|((with_reducible apply wl_yes);exact rfl;exact rfl;exact rfl)|((with_reducible apply wl_no);exact rfl;exact rfl;exact rfl;exact rfl)|((with_reducible apply wl_noU);exact rfl;exact rfl;exact rfl)
      refine wl_makeB (n := 16) tb_bytes zero_u8 rfl rfl (B := w1.heap.size) (Nat.le_refl _) (fun w2 ho2 hg2 => ?_)
      repeat first|(with_reducible first|apply wc_seq|apply wc_region|apply wl_nil|apply qk_thn|apply wc_block|apply wc_skip|apply wc_ret|apply wc_exit|apply qk_thn_ret|apply qk_in_ret|apply qk_in|apply qk_thn_exit|apply qk_in_exit|apply qk_round_ret|apply qk_round_exit)|((with_reducible apply ws);exact rfl;exact rfl)|((with_reducible apply wl_yes);exact rfl;exact rfl;exact rfl)|((with_reducible apply wl_no);exact rfl;exact rfl;exact rfl;exact rfl)|((with_reducible apply wl_noU);exact rfl;exact rfl;exact rfl)
      have hb2 := hb.kept hg2 (by simp)
      refine wl_loadB rfl to_bytes rfl hb2 rfl ?_
      have hw2 : Below w.heap.size w w2 := hw1.trans (below_of hg2 (by omega) (by simp))
      refine wl_copyB tb_bytes rfl rfl rfl ho2 rfl (hs.below (hw2.mono hB) (Nat.le_refl _)).bytes (fun w3 ho3 hg3 => ?_)
      repeat first|(with_reducible first|apply wc_seq|apply wc_region|apply wl_nil|apply qk_thn|apply wc_block|apply wc_skip|apply wc_ret|apply wc_exit|apply qk_thn_ret|apply qk_in_ret|apply qk_in|apply qk_thn_exit|apply qk_in_exit|apply qk_round_ret|apply qk_round_exit)|((with_reducible apply ws);exact rfl;exact rfl)|((with_reducible apply wl_yes);exact rfl;exact rfl;exact rfl)|((with_reducible apply wl_no);exact rfl;exact rfl;exact rfl;exact rfl)|((with_reducible apply wl_noU);exact rfl;exact rfl;exact rfl)
      refine qk_ret1 rfl rfl ⟨_, rfl, hw2.trans (below_of hg3 (by have := hw2.size; omega) (by intro k hk; simp at hk; omega)), ?_⟩
      have e : sixteen t.s = t.s.take 16 ++ (List.replicate 16 (0 : UInt8)).drop (min t.s.length 16) := by
        unfold sixteen
        rw [List.take_append]
        by_cases h : 16 ≤ t.s.length
        · rw [Nat.min_eq_right h, List.drop_of_length_le (by simp), show 16 - t.s.length = 0 from by omega]; rfl
        · rw [Nat.min_eq_left (by omega), List.take_replicate, List.drop_replicate, Nat.min_eq_left (by omega)]
      have e7 : wVal 7 flex null (wPart ver flex sub) t = sixteen t.s := by simp [wVal]
      rw [e7, e]
      exact ho3.mono (by omega)
    · refine wc_no rfl (by simpa using h7) ?_
      repeat first|(with_reducible first|apply wc_seq|apply wc_region|apply wl_nil|apply qk_thn|apply wc_block|apply wc_skip|apply wc_ret|apply wc_exit|apply qk_thn_ret|apply qk_in_ret|apply qk_in|apply qk_thn_exit|apply qk_in_exit|apply qk_round_ret|apply qk_round_exit)|((with_reducible apply ws);exact rfl;exact rfl)|((with_reducible apply wl_yes);exact rfl;exact rfl;exact rfl)|((with_reducible apply wl_no);exact rfl;exact rfl;exact rfl;exact rfl)|((with_reducible apply wl_noU);exact rfl;exact rfl;exact rfl)
      by_cases h8 : kind = 8
      · subst h8
        have e8 : wVal 8 flex null (wPart ver flex sub) t = counted flex null (if null then [] else whole t.s).length 2 ++ (if null then [] else whole t.s) := by simp [wVal]
        rw [e8] at hlim ⊢
        refine wc_yes rfl (by decide) ?_
        repeat first|(with_reducible first|apply wc_seq|apply wc_region|apply wl_nil|apply qk_thn|apply wc_block|apply wc_skip|apply wc_ret|apply wc_exit|apply qk_thn_ret|apply qk_in_ret|apply qk_in|apply qk_thn_exit|apply qk_in_exit|apply qk_round_ret|apply qk_round_exit)|((with_reducible apply ws);exact rfl;exact rfl)|((with_reducible apply wl_yes);exact rfl;exact rfl;exact rfl)|((with_reducible apply wl_no);exact rfl;exact rfl;exact rfl;exact rfl)|((with_reducible apply wl_noU);exact rfl;exact rfl;exact rfl)
        refine wl_loadB rfl to_bytes rfl hb rfl ?_
        have hs1 := hs.below (hw1.mono hB) (Nat.le_refl _)
        refine wl_call rfl (by kernel_rfl) rfl ((fn_whole _ _ _ _ hs1).mono ?_)
        rintro e w2 ⟨v, rfl, hb2, rfl, hsq⟩
        refine ⟨v, rfl, ?_⟩
        rw [whole_map] at hsq
        have hby := hsq.bytes
        obtain ⟨a3, c3, rfl⟩ := hby.shape
        cases null
        · simp only [Bool.false_eq_true, if_false] at hlim ⊢
          repeat first|(with_reducible first|apply wc_seq|apply wc_region|apply wl_nil|apply qk_thn|apply wc_block|apply wc_skip|apply wc_ret|apply wc_exit|apply qk_thn_ret|apply qk_in_ret|apply qk_in|apply qk_thn_exit|apply qk_in_exit|apply qk_round_ret|apply qk_round_exit)|((with_reducible apply ws);exact rfl;exact rfl)|((with_reducible apply wl_yes);exact rfl;exact rfl;exact rfl)|((with_reducible apply wl_no);exact rfl;exact rfl;exact rfl;exact rfl)|((with_reducible apply wl_noU);exact rfl;exact rfl;exact rfl)
          refine wc_no rfl rfl ?_
          repeat first|(with_reducible first|apply wc_seq|apply wc_region|apply wl_nil|apply qk_thn|apply wc_block|apply wc_skip|apply wc_ret|apply wc_exit|apply qk_thn_ret|apply qk_in_ret|apply qk_in|apply qk_thn_exit|apply qk_in_exit|apply qk_round_ret|apply qk_round_exit)|((with_reducible apply ws);exact rfl;exact rfl)|((with_reducible apply wl_yes);exact rfl;exact rfl;exact rfl)|((with_reducible apply wl_no);exact rfl;exact rfl;exact rfl;exact rfl)|((with_reducible apply wl_noU);exact rfl;exact rfl;exact rfl)
          have hwl : (whole t.s).length ≤ 32767 := by simp [whole, Most]; omega
          refine wl_call rfl (by kernel_rfl) rfl ((fn_counted flex false (whole t.s).length 2 (by omega) (by omega) w2).mono ?_)
          rintro e w3 ⟨v, rfl, hb3, ho3⟩
          refine ⟨v, rfl, ?_⟩
          repeat first|(with_reducible first|apply wc_seq|apply wc_region|apply wl_nil|apply qk_thn|apply wc_block|apply wc_skip|apply wc_ret|apply wc_exit|apply qk_thn_ret|apply qk_in_ret|apply qk_in|apply qk_thn_exit|apply qk_in_exit|apply qk_round_ret|apply qk_round_exit)|((with_reducible apply ws);exact rfl;exact rfl)|((with_reducible apply wl_yes);exact rfl;exact rfl;exact rfl)|((with_reducible apply wl_no);exact rfl;exact rfl;exact rfl;exact rfl)|((with_reducible apply wl_noU);exact rfl;exact rfl;exact rfl)
          refine wl_appSl tb_bytes tb_bytes rfl rfl rfl (hby.below hb3) ho3 hb3.size (by simpa using hlim) (fun d' w4 ho4 hg4 => ?_)
          repeat first|(with_reducible first|apply wc_seq|apply wc_region|apply wl_nil|apply qk_thn|apply wc_block|apply wc_skip|apply wc_ret|apply wc_exit|apply qk_thn_ret|apply qk_in_ret|apply qk_in|apply qk_thn_exit|apply qk_in_exit|apply qk_round_ret|apply qk_round_exit)|((with_reducible apply ws);exact rfl;exact rfl)|((with_reducible apply wl_yes);exact rfl;exact rfl;exact rfl)|((with_reducible apply wl_no);exact rfl;exact rfl;exact rfl;exact rfl)|((with_reducible apply wl_noU);exact rfl;exact rfl;exact rfl)
          exact qk_ret1 rfl rfl ⟨_, rfl, hw1.trans ((hb3.mono (by omega)).trans (hg4.below (by have := hb3.size; omega) (fun g hg => by have := ho3.ge g hg; omega))), ho4.mono (by omega)⟩
        · simp only [if_true] at hlim ⊢
          repeat first|(with_reducible first|apply wc_seq|apply wc_region|apply wl_nil|apply qk_thn|apply wc_block|apply wc_skip|apply wc_ret|apply wc_exit|apply qk_thn_ret|apply qk_in_ret|apply qk_in|apply qk_thn_exit|apply qk_in_exit|apply qk_round_ret|apply qk_round_exit)|((with_reducible apply ws);exact rfl;exact rfl)|((with_reducible apply wl_yes);exact rfl;exact rfl;exact rfl)|((with_reducible apply wl_no);exact rfl;exact rfl;exact rfl;exact rfl)|((with_reducible apply wl_noU);exact rfl;exact rfl;exact rfl)
          refine wc_yes rfl rfl ?_
          repeat first|(with_reducible first|apply wc_seq|apply wc_region|apply wl_nil|apply qk_thn|apply wc_block|apply wc_skip|apply wc_ret|apply wc_exit|apply qk_thn_ret|apply qk_in_ret|apply qk_in|apply qk_thn_exit|apply qk_in_exit|apply qk_round_ret|apply qk_round_exit)|((with_reducible apply ws);exact rfl;exact rfl)|((with_reducible apply wl_yes);exact rfl;exact rfl;exact rfl)|((with_reducible apply wl_no);exact rfl;exact rfl;exact rfl;exact rfl)|((with_reducible apply wl_noU);exact rfl;exact rfl;exact rfl)
          refine wl_call rfl (by kernel_rfl) rfl ((fn_counted flex true 0 2 (by omega) (by omega) w2).mono ?_)
          rintro e w3 ⟨v, rfl, hb3, ho3⟩
          refine ⟨v, rfl, ?_⟩
          repeat first|(with_reducible first|apply wc_seq|apply wc_region|apply wl_nil|apply qk_thn|apply wc_block|apply wc_skip|apply wc_ret|apply wc_exit|apply qk_thn_ret|apply qk_in_ret|apply qk_in|apply qk_thn_exit|apply qk_in_exit|apply qk_round_ret|apply qk_round_exit)|((with_reducible apply ws);exact rfl;exact rfl)|((with_reducible apply wl_yes);exact rfl;exact rfl;exact rfl)|((with_reducible apply wl_no);exact rfl;exact rfl;exact rfl;exact rfl)|((with_reducible apply wl_noU);exact rfl;exact rfl;exact rfl)
          refine wl_appSl (ys := []) tb_bytes tb_bytes rfl rfl rfl (.inl ⟨none, 0, rfl, rfl⟩) ho3 hb3.size (by simpa using hlim) (fun d' w4 ho4 hg4 => ?_)
          repeat first|(with_reducible first|apply wc_seq|apply wc_region|apply wl_nil|apply qk_thn|apply wc_block|apply wc_skip|apply wc_ret|apply wc_exit|apply qk_thn_ret|apply qk_in_ret|apply qk_in|apply qk_thn_exit|apply qk_in_exit|apply qk_round_ret|apply qk_round_exit)|((with_reducible apply ws);exact rfl;exact rfl)|((with_reducible apply wl_yes);exact rfl;exact rfl;exact rfl)|((with_reducible apply wl_no);exact rfl;exact rfl;exact rfl;exact rfl)|((with_reducible apply wl_noU);exact rfl;exact rfl;exact rfl)
          exact qk_ret1 rfl rfl ⟨_, rfl, hw1.trans ((hb3.mono (by omega)).trans (hg4.below (by have := hb3.size; omega) (fun g hg => by have := ho3.ge g hg; omega))), ho4.mono (by omega)⟩
      · refine wc_no rfl (by simpa using h8) ?_
        repeat first|(with_reducible first|apply wc_seq|apply wc_region|apply wl_nil|apply qk_thn|apply wc_block|apply wc_skip|apply wc_ret|apply wc_exit|apply qk_thn_ret|apply qk_in_ret|apply qk_in|apply qk_thn_exit|apply qk_in_exit|apply qk_round_ret|apply qk_round_exit)|((with_reducible apply ws);exact rfl;exact rfl)|((with_reducible apply wl_yes);exact rfl;exact rfl;exact rfl)|((with_reducible apply wl_no);exact rfl;exact rfl;exact rfl;exact rfl)|((with_reducible apply wl_noU);exact rfl;exact rfl;exact rfl)
        by_cases h9 : kind = 9
        · subst h9
          have e9 : wVal 9 flex null (wPart ver flex sub) t = counted flex null (if null then [] else whole t.s).length 4 ++ (if null then [] else whole t.s) := by simp [wVal]
          rw [e9] at hlim ⊢
          refine wc_yes rfl (by decide) ?_
          repeat first|(with_reducible first|apply wc_seq|apply wc_region|apply wl_nil|apply qk_thn|apply wc_block|apply wc_skip|apply wc_ret|apply wc_exit|apply qk_thn_ret|apply qk_in_ret|apply qk_in|apply qk_thn_exit|apply qk_in_exit|apply qk_round_ret|apply qk_round_exit)|((with_reducible apply ws);exact rfl;exact rfl)|((with_reducible apply wl_yes);exact rfl;exact rfl;exact rfl)|((with_reducible apply wl_no);exact rfl;exact rfl;exact rfl;exact rfl)|((with_reducible apply wl_noU);exact rfl;exact rfl;exact rfl)
          refine wl_loadB rfl to_bytes rfl hb rfl ?_
          have hs1 := hs.below (hw1.mono hB) (Nat.le_refl _)
          refine wl_call rfl (by kernel_rfl) rfl ((fn_whole _ _ _ _ hs1).mono ?_)
          rintro e w2 ⟨v, rfl, hb2, rfl, hsq⟩
          refine ⟨v, rfl, ?_⟩
          rw [whole_map] at hsq
          have hby := hsq.bytes
          obtain ⟨a3, c3, rfl⟩ := hby.shape
          cases null
          · simp only [Bool.false_eq_true, if_false] at hlim ⊢
            repeat first|(with_reducible first|apply wc_seq|apply wc_region|apply wl_nil|apply qk_thn|apply wc_block|apply wc_skip|apply wc_ret|apply wc_exit|apply qk_thn_ret|apply qk_in_ret|apply qk_in|apply qk_thn_exit|apply qk_in_exit|apply qk_round_ret|apply qk_round_exit)|((with_reducible apply ws);exact rfl;exact rfl)|((with_reducible apply wl_yes);exact rfl;exact rfl;exact rfl)|((with_reducible apply wl_no);exact rfl;exact rfl;exact rfl;exact rfl)|((with_reducible apply wl_noU);exact rfl;exact rfl;exact rfl)
            refine wc_no rfl rfl ?_
            repeat first|(with_reducible first|apply wc_seq|apply wc_region|apply wl_nil|apply qk_thn|apply wc_block|apply wc_skip|apply wc_ret|apply wc_exit|apply qk_thn_ret|apply qk_in_ret|apply qk_in|apply qk_thn_exit|apply qk_in_exit|apply qk_round_ret|apply qk_round_exit)|((with_reducible apply ws);exact rfl;exact rfl)|((with_reducible apply wl_yes);exact rfl;exact rfl;exact rfl)|((with_reducible apply wl_no);exact rfl;exact rfl;exact rfl;exact rfl)|((with_reducible apply wl_noU);exact rfl;exact rfl;exact rfl)
            have hwl : (whole t.s).length ≤ 32767 := by simp [whole, Most]; omega
            refine wl_call rfl (by kernel_rfl) rfl ((fn_counted flex false (whole t.s).length 4 (by omega) (by omega) w2).mono ?_)
            rintro e w3 ⟨v, rfl, hb3, ho3⟩
            refine ⟨v, rfl, ?_⟩
            repeat first|(with_reducible first|apply wc_seq|apply wc_region|apply wl_nil|apply qk_thn|apply wc_block|apply wc_skip|apply wc_ret|apply wc_exit|apply qk_thn_ret|apply qk_in_ret|apply qk_in|apply qk_thn_exit|apply qk_in_exit|apply qk_round_ret|apply qk_round_exit)|((with_reducible apply ws);exact rfl;exact rfl)|((with_reducible apply wl_yes);exact rfl;exact rfl;exact rfl)|((with_reducible apply wl_no);exact rfl;exact rfl;exact rfl;exact rfl)|((with_reducible apply wl_noU);exact rfl;exact rfl;exact rfl)
            refine wl_appSl tb_bytes tb_bytes rfl rfl rfl (hby.below hb3) ho3 hb3.size (by simpa using hlim) (fun d' w4 ho4 hg4 => ?_)
            repeat first|(with_reducible first|apply wc_seq|apply wc_region|apply wl_nil|apply qk_thn|apply wc_block|apply wc_skip|apply wc_ret|apply wc_exit|apply qk_thn_ret|apply qk_in_ret|apply qk_in|apply qk_thn_exit|apply qk_in_exit|apply qk_round_ret|apply qk_round_exit)|((with_reducible apply ws);exact rfl;exact rfl)|((with_reducible apply wl_yes);exact rfl;exact rfl;exact rfl)|((with_reducible apply wl_no);exact rfl;exact rfl;exact rfl;exact rfl)|((with_reducible apply wl_noU);exact rfl;exact rfl;exact rfl)
            exact qk_ret1 rfl rfl ⟨_, rfl, hw1.trans ((hb3.mono (by omega)).trans (hg4.below (by have := hb3.size; omega) (fun g hg => by have := ho3.ge g hg; omega))), ho4.mono (by omega)⟩
          · simp only [if_true] at hlim ⊢
            repeat first|(with_reducible first|apply wc_seq|apply wc_region|apply wl_nil|apply qk_thn|apply wc_block|apply wc_skip|apply wc_ret|apply wc_exit|apply qk_thn_ret|apply qk_in_ret|apply qk_in|apply qk_thn_exit|apply qk_in_exit|apply qk_round_ret|apply qk_round_exit)|((with_reducible apply ws);exact rfl;exact rfl)|((with_reducible apply wl_yes);exact rfl;exact rfl;exact rfl)|((with_reducible apply wl_no);exact rfl;exact rfl;exact rfl;exact rfl)|((with_reducible apply wl_noU);exact rfl;exact rfl;exact rfl)
            refine wc_yes rfl rfl ?_
            repeat first|(with_reducible first|apply wc_seq|apply wc_region|apply wl_nil|apply qk_thn|apply wc_block|apply wc_skip|apply wc_ret|apply wc_exit|apply qk_thn_ret|apply qk_in_ret|apply qk_in|apply qk_thn_exit|apply qk_in_exit|apply qk_round_ret|apply qk_round_exit)|((with_reducible apply ws);exact rfl;exact rfl)|((with_reducible apply wl_yes);exact rfl;exact rfl;exact rfl)|((with_reducible apply wl_no);exact rfl;exact rfl;exact rfl;exact rfl)|((with_reducible apply wl_noU);exact rfl;exact rfl;exact rfl)
            refine wl_call rfl (by kernel_rfl) rfl ((fn_counted flex true 0 4 (by omega) (by omega) w2).mono ?_)
            rintro e w3 ⟨v, rfl, hb3, ho3⟩
            refine ⟨v, rfl, ?_⟩
            repeat first|(with_reducible first|apply wc_seq|apply wc_region|apply wl_nil|apply qk_thn|apply wc_block|apply wc_skip|apply wc_ret|apply wc_exit|apply qk_thn_ret|apply qk_in_ret|apply qk_in|apply qk_thn_exit|apply qk_in_exit|apply qk_round_ret|apply qk_round_exit)|((with_reducible apply ws);exact rfl;exact rfl)|((with_reducible apply wl_yes);exact rfl;exact rfl;exact rfl)|((with_reducible apply wl_no);exact rfl;exact rfl;exact rfl;exact rfl)|((with_reducible apply wl_noU);exact rfl;exact rfl;exact rfl)
            refine wl_appSl (ys := []) tb_bytes tb_bytes rfl rfl rfl (.inl ⟨none, 0, rfl, rfl⟩) ho3 hb3.size (by simpa using hlim) (fun d' w4 ho4 hg4 => ?_)
            repeat first|(with_reducible first|apply wc_seq|apply wc_region|apply wl_nil|apply qk_thn|apply wc_block|apply wc_skip|apply wc_ret|apply wc_exit|apply qk_thn_ret|apply qk_in_ret|apply qk_in|apply qk_thn_exit|apply qk_in_exit|apply qk_round_ret|apply qk_round_exit)|((with_reducible apply ws);exact rfl;exact rfl)|((with_reducible apply wl_yes);exact rfl;exact rfl;exact rfl)|((with_reducible apply wl_no);exact rfl;exact rfl;exact rfl;exact rfl)|((with_reducible apply wl_noU);exact rfl;exact rfl;exact rfl)
            exact qk_ret1 rfl rfl ⟨_, rfl, hw1.trans ((hb3.mono (by omega)).trans (hg4.below (by have := hb3.size; omega) (fun g hg => by have := ho3.ge g hg; omega))), ho4.mono (by omega)⟩
        · refine wc_no rfl (by simpa using h9) ?_
          repeat first|(with_reducible first|apply wc_seq|apply wc_region|apply wl_nil|apply qk_thn|apply wc_block|apply wc_skip|apply wc_ret|apply wc_exit|apply qk_thn_ret|apply qk_in_ret|apply qk_in|apply qk_thn_exit|apply qk_in_exit|apply qk_round_ret|apply qk_round_exit)|((with_reducible apply ws);exact rfl;exact rfl)|((with_reducible apply wl_yes);exact rfl;exact rfl;exact rfl)|((with_reducible apply wl_no);exact rfl;exact rfl;exact rfl;exact rfl)|((with_reducible apply wl_noU);exact rfl;exact rfl;exact rfl)
          by_cases h10 : kind = 10
          · subst h10
            have e10 : wVal 10 flex null (wPart ver flex sub) t = wPart ver flex sub t := by simp [wVal]
            rw [e10] at hlim ⊢
            refine wc_yes rfl (by decide) ?_
            repeat first|(with_reducible first|apply wc_seq|apply wc_region|apply wl_nil|apply qk_thn|apply wc_block|apply wc_skip|apply wc_ret|apply wc_exit|apply qk_thn_ret|apply qk_in_ret|apply qk_in|apply qk_thn_exit|apply qk_in_exit|apply qk_round_ret|apply qk_round_exit)|((with_reducible apply ws);exact rfl;exact rfl)|((with_reducible apply wl_yes);exact rfl;exact rfl;exact rfl)|((with_reducible apply wl_no);exact rfl;exact rfl;exact rfl;exact rfl)|((with_reducible apply wl_noU);exact rfl;exact rfl;exact rfl)
            refine wl_loadBAgg (cs := [.int .i64 t.n, .slice sa (t.s.map byteD).length sc, .bool t.nul, lv, uv]) rfl ta_tree rfl hb ?_
            refine wl_call rfl (by kernel_rfl) rfl ((hp flex ver t B w1 _ _ hok hB1 (hf.below (hw1.mono hB) (Nat.le_refl _)) (ht.below (hw1.mono hB) (Nat.le_refl _)) hlim).mono ?_)
            rintro e w3 ⟨v, rfl, hb3, ho3⟩
            refine ⟨v, rfl, ?_⟩
            repeat first|(with_reducible first|apply wc_seq|apply wc_region|apply wl_nil|apply qk_thn|apply wc_block|apply wc_skip|apply wc_ret|apply wc_exit|apply qk_thn_ret|apply qk_in_ret|apply qk_in|apply qk_thn_exit|apply qk_in_exit|apply qk_round_ret|apply qk_round_exit)|((with_reducible apply ws);exact rfl;exact rfl)|((with_reducible apply wl_yes);exact rfl;exact rfl;exact rfl)|((with_reducible apply wl_no);exact rfl;exact rfl;exact rfl;exact rfl)|((with_reducible apply wl_noU);exact rfl;exact rfl;exact rfl)
            exact qk_ret1 rfl rfl ⟨_, rfl, hw1.trans (hb3.mono (by omega)), ho3.mono (by omega)⟩
          · refine wc_no rfl (by simpa using h10) ?_
            repeat first|(with_reducible first|apply wc_seq|apply wc_region|apply wl_nil|apply qk_thn|apply wc_block|apply wc_skip|apply wc_ret|apply wc_exit|apply qk_thn_ret|apply qk_in_ret|apply qk_in|apply qk_thn_exit|apply qk_in_exit|apply qk_round_ret|apply qk_round_exit)|((with_reducible apply ws);exact rfl;exact rfl)|((with_reducible apply wl_yes);exact rfl;exact rfl;exact rfl)|((with_reducible apply wl_no);exact rfl;exact rfl;exact rfl;exact rfl)|((with_reducible apply wl_noU);exact rfl;exact rfl;exact rfl)
            have ed : wVal kind flex null (wPart ver flex sub) t = be (width kind) t.n := by simp [wVal, h0, h7, h8, h9, h10]
            rw [ed]
            have hbx : ∀ w', Below w1.heap.size w1 w' → Box w' w.heap.size [.int .i64 t.n, .slice sa (t.s.map byteD).length sc, .bool t.nul, lv, uv] 26 := fun w' h => hb.below h (by omega)
            refine wc_par [(0, .pointer (some ⟨w.heap.size, 0 + 0, none⟩)), (1, .int .i64 t.n), (2, .int .i64 kind)] [5, 4, 3]
              (fun vals w' => Below w1.heap.size w1 w' ∧ match vals with
                | [] => True
                | [v] => v = .int .i64 (width kind : Nat)
                | v :: _ => Own w' w1.heap.size 5 v (be (width kind) t.n))
              mixed rfl rfl rfl rfl rfl (by show ([0,1,2] : List Nat).Nodup; decide) rfl rfl (by decide) rfl rfl rfl rfl ⟨(Below.refl _ w1).drew, trivial⟩ ?_ ⟨?_, ?_, ?_, trivial⟩ ?_
            · intro p hp vals w' hC a k
              simp only [List.mem_cons, List.not_mem_nil, or_false] at hp
              rcases hp with rfl | rfl | rfl
              · exact gv rfl rfl (rn_fieldAddr k rfl fo_tree0)
              · exact gv rfl rfl (rn_load k rfl to_i64 ((hbx _ hC.1).cell0 (i := 0) rfl))
              · exact gv rfl rfl (rn_move k rfl)
            · rintro vals w' hvl ⟨hb', hC⟩ a k
              match vals, hvl with
              | [v4, v3], _ => exact ⟨_, rfl, does_assign k rfl ⟨hb', hC⟩⟩
            · rintro vals w' hvl ⟨hb', hC⟩ a k
              match vals, hvl with
              | [v3], _ =>
                simp only [] at hC
                subst hC
                have hwd := width_le kind
                exact ⟨_, rfl, does_call k rfl (by kernel_rfl) ((fn_fixed t.n (width kind) hwd w').mono (by rintro e w'' ⟨v, rfl, hb'', ho⟩; exact ⟨v, rfl, hb'.trans (hb''.mono hb'.size), ho.mono hb'.size⟩))⟩
            · rintro vals w' hvl ⟨hb', hC⟩ a k
              match vals, hvl with
              | [], _ =>
                exact ⟨_, rfl, does_call k rfl (by kernel_rfl) ((fn_width kind w').mono (by rintro e w'' ⟨v, rfl, hb'', rfl, rfl⟩; exact ⟨_, rfl, hb', rfl⟩))⟩
            · rintro vals w' hvl ⟨hb', hC⟩
              match vals, hvl with
              | [v5, v4, v3], _ =>
                refine qk_thn ?_
                repeat first|(with_reducible first|apply wc_seq|apply wc_region|apply wl_nil|apply qk_thn|apply wc_block|apply wc_skip|apply wc_ret|apply wc_exit|apply qk_thn_ret|apply qk_in_ret|apply qk_in|apply qk_thn_exit|apply qk_in_exit|apply qk_round_ret|apply qk_round_exit)|((with_reducible apply ws);exact rfl;exact rfl)|((with_reducible apply wl_yes);exact rfl;exact rfl;exact rfl)|((with_reducible apply wl_no);exact rfl;exact rfl;exact rfl;exact rfl)|((with_reducible apply wl_noU);exact rfl;exact rfl;exact rfl)
                exact qk_ret1 rfl rfl ⟨_, rfl, hw1.trans (hb'.mono (by omega)), Own.mono hC (by omega)⟩
end
end Go.Proofs.Ytaoecdeljfdmeaa
