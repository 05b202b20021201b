/- The reference's functions that compare octets, and count tags: what each comes to. -/
import Derived.Test.YtaoecdeljfdmeaaSpecA
import Derived.Test.YtaoecdeljfdmeaaDraw2
namespace Go.Proofs.Ytaoecdeljfdmeaa
open Go Go.RowKit

theorem BytesAt.below {w w' : World} {v : Value} {ys : List UInt8} (h : BytesAt w v ys) (hb : Below w.heap.size w w') : BytesAt w' v ys := by
  rcases h with ⟨a, c, rfl, rfl⟩ | ⟨b, off, c, rfl, hc⟩
  · exact .inl ⟨a, c, rfl, rfl⟩
  · exact .inr ⟨b, off, c, rfl, hc.of_block (hb.block b hc.lt)⟩
theorem BytesAt.get {w : World} {v : Value} {ys : List UInt8} (h : BytesAt w v ys) {i : Nat} (hi : i < ys.length) : ∃ b off c, v = .slice (some ⟨b, off, none⟩) ys.length c ∧ w.cell? ⟨b, off + i * 1, none⟩ = some (.int .u8 (ys[i].toNat : Int)) := by
  rcases h with ⟨a, c, rfl, rfl⟩ | ⟨b, off, c, rfl, hc⟩
  · simp at hi
  · refine ⟨b, off, c, rfl, ?_⟩
    rw [Nat.mul_one]
    exact hc.cell (by simp [bv, hi])
theorem take_ne {xs ys : List UInt8} {i : Nat} (hx : i < xs.length) (hy : i < ys.length) (h : xs[i] ≠ ys[i]) : (xs == ys) = false := by
  rw [beq_eq_false_iff_ne]
  rintro rfl
  exact h rfl
theorem u8_ne {a b : UInt8} : ((a.toNat : Int) != (b.toNat : Int)) = (a != b) := by
  rw [Bool.eq_iff_iff]
  simp only [bne_iff_ne, ne_eq]
  rw [Int.ofNat_inj, UInt8.toNat_inj]

section
set_option maxRecDepth 100000
theorem fn_same (va vb : Value) (xs ys : List UInt8) (w : World) (ha : BytesAt w va xs) (hb : BytesAt w vb ys) (hx : xs.length ≤ lim) (hy : ys.length ≤ lim) :
    Fn 8 [va, vb] w fun v _ => v = .bool (xs == ys) := by
  simp only [lim] at hx hy
  obtain ⟨aa, ca, hva⟩ := ha.shape
  obtain ⟨ab, cb, hvb⟩ := hb.shape
  subst hva; subst hvb
  refine enter Try.func8 rfl Try.ntmps8 rfl ?_
  repeat first|(with_reducible first|apply wc_seq|apply wc_region|apply wl_nil|apply qk_thn|apply wc_block|apply wc_skip|apply wc_ret|apply wc_exit|apply qk_thn_ret|apply qk_in_ret|apply qk_in|apply qk_thn_exit|apply qk_in_exit|apply qk_round_ret|apply qk_round_exit)|((with_reducible apply ws);exact rfl;exact rfl)|((with_reducible apply wl_yes);exact rfl;exact rfl;exact rfl)|((with_reducible apply wl_no);exact rfl;exact rfl;exact rfl;exact rfl)|((with_reducible apply wl_noU);exact rfl;exact rfl;exact rfl)
  by_cases hl : xs.length = ys.length
  · refine wc_no rfl (by simp [hl]) ?_
    repeat first|(with_reducible first|apply wc_seq|apply wc_region|apply wl_nil|apply qk_thn|apply wc_block|apply wc_skip|apply wc_ret|apply wc_exit|apply qk_thn_ret|apply qk_in_ret|apply qk_in|apply qk_thn_exit|apply qk_in_exit|apply qk_round_ret|apply qk_round_exit)|((with_reducible apply ws);exact rfl;exact rfl)|((with_reducible apply wl_yes);exact rfl;exact rfl;exact rfl)|((with_reducible apply wl_no);exact rfl;exact rfl;exact rfl;exact rfl)|((with_reducible apply wl_noU);exact rfl;exact rfl;exact rfl)
    refine wc_loop (α := Nat) (fun i => [(13, .int .i64 (i : Int)), (12, .int .i64 (xs.length : Int)), (0, .slice aa xs.length ca), (1, .slice ab ys.length cb)]) (fun i w' => i ≤ xs.length ∧ xs.take i = ys.take i ∧ Below w.heap.size w w') (fun i => xs.length - i) 0 ⟨rfl, rfl, rfl, rfl, trivial⟩ ⟨by omega, rfl, Below.refl _ _⟩ ?_
    rintro i w1 ⟨hi, ht, hw⟩
    repeat first|(with_reducible first|apply wc_seq|apply wc_region|apply wl_nil|apply qk_thn|apply wc_block|apply wc_skip|apply wc_ret|apply wc_exit|apply qk_thn_ret|apply qk_in_ret|apply qk_in|apply qk_thn_exit|apply qk_in_exit|apply qk_round_ret|apply qk_round_exit)|((with_reducible apply ws);exact rfl;exact rfl)|((with_reducible apply wl_yes);exact rfl;exact rfl;exact rfl)|((with_reducible apply wl_no);exact rfl;exact rfl;exact rfl;exact rfl)|((with_reducible apply wl_noU);exact rfl;exact rfl;exact rfl)
    by_cases hlt : i < xs.length
    · refine wc_yes rfl (by simpa using hlt) ?_
      repeat first|(with_reducible first|apply wc_seq|apply wc_region|apply wl_nil|apply qk_thn|apply wc_block|apply wc_skip|apply wc_ret|apply wc_exit|apply qk_thn_ret|apply qk_in_ret|apply qk_in|apply qk_thn_exit|apply qk_in_exit|apply qk_round_ret|apply qk_round_exit)|((with_reducible apply ws);exact rfl;exact rfl)|((with_reducible apply wl_yes);exact rfl;exact rfl;exact rfl)|((with_reducible apply wl_no);exact rfl;exact rfl;exact rfl;exact rfl)|((with_reducible apply wl_noU);exact rfl;exact rfl;exact rfl)
      obtain ⟨b1, o1, c1, hv1, hc1⟩ := (ha.below hw).get hlt
      obtain ⟨b2, o2, c2, hv2, hc2⟩ := (hb.below hw).get (i := i) (by omega)
      simp only [Value.slice.injEq] at hv1 hv2
      obtain ⟨rfl, _, rfl⟩ := hv1
      obtain ⟨rfl, _, rfl⟩ := hv2
      refine wc_par [(0, .slice (some ⟨b1, o1, none⟩) xs.length ca), (1, .int .i64 (i : Int)), (2, .pointer (some ⟨b1, o1 + i * 1, none⟩)), (3, .int .u8 (xs[i].toNat : Int)), (4, .slice (some ⟨b2, o2, none⟩) ys.length cb), (5, .int .i64 (i : Int)), (6, .pointer (some ⟨b2, o2 + i * 1, none⟩)), (7, .int .u8 (ys[i].toNat : Int)), (8, .bool ((xs[i].toNat : Int) != (ys[i].toNat : Int)))] []
        (fun _ w' => Below w.heap.size w w' ∧ w'.cell? ⟨b1, o1 + i * 1, none⟩ = some (.int .u8 (xs[i].toNat : Int)) ∧ w'.cell? ⟨b2, o2 + i * 1, none⟩ = some (.int .u8 (ys[i].toNat : Int)))
        mixed rfl rfl rfl rfl rfl (by show ([0,1,2,3,4,5,6,7,8] : List Nat).Nodup; decide) rfl rfl (by decide) rfl rfl rfl rfl ⟨hw.drew, hc1, hc2⟩ ?_ trivial ?_
      · intro p hp vals w' hC a k
        simp only [List.mem_cons, List.not_mem_nil, or_false] at hp
        rcases hp with rfl | rfl | rfl | rfl | rfl | rfl | rfl | rfl | rfl
        · exact gv rfl rfl (rn_move k rfl)
        · exact gv rfl rfl (rn_move k rfl)
        · exact gv rfl rfl (rn_indexAddr k rfl rfl es_bytes hlt)
        · exact gv rfl rfl (rn_load k rfl to_u8 hC.2.1)
        · exact gv rfl rfl (rn_move k rfl)
        · exact gv rfl rfl (rn_move k rfl)
        · exact gv rfl rfl (rn_indexAddr k rfl rfl es_bytes (by omega))
        · exact gv rfl rfl (rn_load k rfl to_u8 hC.2.2)
        · exact gv rfl rfl (rn_neq k rfl rfl)
      · rintro vals w' hvl ⟨hw', _, _⟩
        refine qk_thn ?_
        by_cases hne : xs[i] = ys[i]
        · refine wc_no rfl (by rw [hne]; simp) ?_
          repeat first|(with_reducible first|apply wc_seq|apply wc_region|apply wl_nil|apply qk_thn|apply wc_block|apply wc_skip|apply wc_ret|apply wc_exit|apply qk_thn_ret|apply qk_in_ret|apply qk_in|apply qk_thn_exit|apply qk_in_exit|apply qk_round_ret|apply qk_round_exit)|((with_reducible apply ws);exact rfl;exact rfl)|((with_reducible apply wl_yes);exact rfl;exact rfl;exact rfl)|((with_reducible apply wl_no);exact rfl;exact rfl;exact rfl;exact rfl)|((with_reducible apply wl_noU);exact rfl;exact rfl;exact rfl)
          refine wl_add rfl rfl rfl (r := ((i + 1 : Nat) : Int)) (by rw [IntKind.wrap_i64]; omega) ?_
          repeat first|(with_reducible first|apply wc_seq|apply wc_region|apply wl_nil|apply qk_thn|apply wc_block|apply wc_skip|apply wc_ret|apply wc_exit|apply qk_thn_ret|apply qk_in_ret|apply qk_in|apply qk_thn_exit|apply qk_in_exit|apply qk_round_ret|apply qk_round_exit)|((with_reducible apply ws);exact rfl;exact rfl)|((with_reducible apply wl_yes);exact rfl;exact rfl;exact rfl)|((with_reducible apply wl_no);exact rfl;exact rfl;exact rfl;exact rfl)|((with_reducible apply wl_noU);exact rfl;exact rfl;exact rfl)
          refine qk_round (i + 1) ⟨rfl, rfl, rfl, rfl, trivial⟩ ⟨by omega, ?_, hw'⟩ (by omega)
          rw [List.take_succ_eq_append_getElem hlt, List.take_succ_eq_append_getElem (by omega), ht, hne]
        · refine wc_yes rfl (by rw [u8_ne]; simpa using hne) ?_
          repeat first|(with_reducible first|apply wc_seq|apply wc_region|apply wl_nil|apply qk_thn|apply wc_block|apply wc_skip|apply wc_ret|apply wc_exit|apply qk_thn_ret|apply qk_in_ret|apply qk_in|apply qk_thn_exit|apply qk_in_exit|apply qk_round_ret|apply qk_round_exit)|((with_reducible apply ws);exact rfl;exact rfl)|((with_reducible apply wl_yes);exact rfl;exact rfl;exact rfl)|((with_reducible apply wl_no);exact rfl;exact rfl;exact rfl;exact rfl)|((with_reducible apply wl_noU);exact rfl;exact rfl;exact rfl)
          exact qk_ret1 rfl rfl ⟨_, rfl, hw', by rw [take_ne hlt (by omega) hne]⟩
    · refine wc_no rfl (by simpa using hlt) ?_
      repeat first|(with_reducible first|apply wc_seq|apply wc_region|apply wl_nil|apply qk_thn|apply wc_block|apply wc_skip|apply wc_ret|apply wc_exit|apply qk_thn_ret|apply qk_in_ret|apply qk_in|apply qk_thn_exit|apply qk_in_exit|apply qk_round_ret|apply qk_round_exit)|((with_reducible apply ws);exact rfl;exact rfl)|((with_reducible apply wl_yes);exact rfl;exact rfl;exact rfl)|((with_reducible apply wl_no);exact rfl;exact rfl;exact rfl;exact rfl)|((with_reducible apply wl_noU);exact rfl;exact rfl;exact rfl)
      refine qk_ret1 rfl rfl ⟨_, rfl, hw, ?_⟩
      rw [List.take_of_length_le (by omega), List.take_of_length_le (by omega)] at ht
      simp [ht]
  · refine wc_yes rfl (by simp; omega) ?_
    repeat first|(with_reducible first|apply wc_seq|apply wc_region|apply wl_nil|apply qk_thn|apply wc_block|apply wc_skip|apply wc_ret|apply wc_exit|apply qk_thn_ret|apply qk_in_ret|apply qk_in|apply qk_thn_exit|apply qk_in_exit|apply qk_round_ret|apply qk_round_exit)|((with_reducible apply ws);exact rfl;exact rfl)|((with_reducible apply wl_yes);exact rfl;exact rfl;exact rfl)|((with_reducible apply wl_no);exact rfl;exact rfl;exact rfl;exact rfl)|((with_reducible apply wl_noU);exact rfl;exact rfl;exact rfl)
    refine qk_ret1 rfl rfl ⟨_, rfl, Below.refl _ _, ?_⟩
    have : (xs == ys) = false := by rw [beq_eq_false_iff_ne]; rintro rfl; exact hl rfl
    rw [this]

theorem known_snoc (fs : List Fld) (f : Fld) : known (fs ++ [f]) = if 0 ≤ f.tag then max (known fs) (f.tag.toNat + 1) else known fs := by simp [known]
theorem known_le {fs : List Fld} (h : ∀ f ∈ fs, f.tag < 2147483647) : known fs < 2147483648 := by
  have : ∀ (fs : List Fld) (m : Nat), m < 2147483648 → (∀ f ∈ fs, f.tag < 2147483647) → fs.foldl (fun n f => if 0 ≤ f.tag then max n (f.tag.toNat + 1) else n) m < 2147483648 := by
    intro fs
    induction fs with
    | nil => intro m hm _; simpa using hm
    | cons f fs ih =>
      intro m hm h
      simp only [List.foldl_cons]
      refine ih _ ?_ (fun g hg => h g (by simp [hg]))
      have := h f (by simp)
      split <;> omega
  exact this fs 0 (by omega) h
theorem fn_known (v : Value) (fs : List Fld) (B : Nat) (w : World) (hB : B ≤ w.heap.size) (h : Sq B w v (fs.map fldD)) (ht : ∀ f ∈ fs, f.tag < 2147483647) (hl : fs.length ≤ 1000000) :
    Fn 46 [v] w fun r _ => r = .int .u32 (known fs : Nat) := by
  obtain ⟨a, c, rfl, _⟩ := h.shape
  simp only [List.length_map] at *
  refine enter Try.func46 rfl Try.ntmps46 rfl ?_
  repeat first|(with_reducible first|apply wc_seq|apply wc_region|apply wl_nil|apply qk_thn|apply wc_block|apply wc_skip|apply wc_ret|apply wc_exit|apply qk_thn_ret|apply qk_in_ret|apply qk_in|apply qk_thn_exit|apply qk_in_exit|apply qk_round_ret|apply qk_round_exit)|((with_reducible apply ws);exact rfl;exact rfl)|((with_reducible apply wl_yes);exact rfl;exact rfl;exact rfl)|((with_reducible apply wl_no);exact rfl;exact rfl;exact rfl;exact rfl)|((with_reducible apply wl_noU);exact rfl;exact rfl;exact rfl)
  refine wc_loop (α := Nat) (fun i => [(8, .int .i64 (i : Int)), (7, .int .i64 (fs.length : Int)), (6, .slice a fs.length c), (3, .int .u32 (known (fs.take i) : Nat))]) (fun i w' => i ≤ fs.length ∧ Below w.heap.size w w') (fun i => fs.length - i) 0 ⟨rfl, rfl, rfl, rfl, trivial⟩ ⟨by omega, Below.refl _ _⟩ ?_
  rintro i w1 ⟨hi, hw⟩
  repeat first|(with_reducible first|apply wc_seq|apply wc_region|apply wl_nil|apply qk_thn|apply wc_block|apply wc_skip|apply wc_ret|apply wc_exit|apply qk_thn_ret|apply qk_in_ret|apply qk_in|apply qk_thn_exit|apply qk_in_exit|apply qk_round_ret|apply qk_round_exit)|((with_reducible apply ws);exact rfl;exact rfl)|((with_reducible apply wl_yes);exact rfl;exact rfl;exact rfl)|((with_reducible apply wl_no);exact rfl;exact rfl;exact rfl;exact rfl)|((with_reducible apply wl_noU);exact rfl;exact rfl;exact rfl)
  by_cases hlt : i < fs.length
  · refine wc_yes rfl (by simpa using hlt) ?_
    obtain ⟨b, off, c', cs, hv, _, hcs, hlen, hr⟩ := (h.below (hw.mono hB) (Nat.le_refl _)).get (sz := 8) (i := i) (by intro d hd; obtain ⟨x, _, rfl⟩ := List.mem_map.1 hd; exact fldD_width x) (by simpa using hlt)
    simp only [Value.slice.injEq, List.length_map] at hv
    obtain ⟨rfl, _, rfl⟩ := hv
    simp only [List.getElem_map] at hr
    obtain ⟨hone, _⟩ := fld_one hr
    have hti := ht fs[i] (by simp)
    have hkl := known_le (fs := fs.take i) (fun f hf => ht f (List.mem_of_mem_take hf))
    have hsn := known_snoc (fs.take i) fs[i]
    rw [← List.take_succ_eq_append_getElem hlt] at hsn
    obtain ⟨sv, hce, _⟩ := fld_cells hr
    subst hce
    repeat first|(with_reducible first|apply wc_seq|apply wc_region|apply wl_nil|apply qk_thn|apply wc_block|apply wc_skip|apply wc_ret|apply wc_exit|apply qk_thn_ret|apply qk_in_ret|apply qk_in|apply qk_thn_exit|apply qk_in_exit|apply qk_round_ret|apply qk_round_exit)|((with_reducible apply ws);exact rfl;exact rfl)|((with_reducible apply wl_yes);exact rfl;exact rfl;exact rfl)|((with_reducible apply wl_no);exact rfl;exact rfl;exact rfl;exact rfl)|((with_reducible apply wl_noU);exact rfl;exact rfl;exact rfl)
    refine wl_indexAddr rfl rfl es_flds rfl hlt ?_
    refine wl_loadAgg (cs := [.int .i64 fs[i].kind, .int .i64 fs[i].fr, .int .i64 fs[i].upto, .int .i64 fs[i].nul, .int .i64 fs[i].tag, .int .i64 fs[i].df, .int .i64 fs[i].of, sv]) rfl ta_fld rfl (fun j v e => hcs.cell e) ?_
    refine wl_alloc zv_fld rfl rfl (fun w2 hb2 hg2 hs2 => ?_)
    refine wl_storeBAgg rfl rfl rfl tz_fld hone hb2 rfl (fun w3 hb3 hg3 hs3 => ?_)
    have hs1 := hw.size
    have hw3 : Below w.heap.size w w3 := (hw.trans (below_of hg2 hs1 (by simp))).trans (below_of hg3 (by omega) (by intro k hk; simp at hk; omega))
    repeat first|(with_reducible first|apply wc_seq|apply wc_region|apply wl_nil|apply qk_thn|apply wc_block|apply wc_skip|apply wc_ret|apply wc_exit|apply qk_thn_ret|apply qk_in_ret|apply qk_in|apply qk_thn_exit|apply qk_in_exit|apply qk_round_ret|apply qk_round_exit)|((with_reducible apply ws);exact rfl;exact rfl)|((with_reducible apply wl_yes);exact rfl;exact rfl;exact rfl)|((with_reducible apply wl_no);exact rfl;exact rfl;exact rfl;exact rfl)|((with_reducible apply wl_noU);exact rfl;exact rfl;exact rfl)
    refine wl_loadB rfl to_int rfl hb3 rfl ?_
    repeat first|(with_reducible first|apply wc_seq|apply wc_region|apply wl_nil|apply qk_thn|apply wc_block|apply wc_skip|apply wc_ret|apply wc_exit|apply qk_thn_ret|apply qk_in_ret|apply qk_in|apply qk_thn_exit|apply qk_in_exit|apply qk_round_ret|apply qk_round_exit)|((with_reducible apply ws);exact rfl;exact rfl)|((with_reducible apply wl_yes);exact rfl;exact rfl;exact rfl)|((with_reducible apply wl_no);exact rfl;exact rfl;exact rfl;exact rfl)|((with_reducible apply wl_noU);exact rfl;exact rfl;exact rfl)
    by_cases htag : 0 ≤ fs[i].tag
    · refine wc_yes rfl (by simpa using htag) ?_
      rw [if_pos htag] at hsn
      repeat first|(with_reducible first|apply wc_seq|apply wc_region|apply wl_nil|apply qk_thn|apply wc_block|apply wc_skip|apply wc_ret|apply wc_exit|apply qk_thn_ret|apply qk_in_ret|apply qk_in|apply qk_thn_exit|apply qk_in_exit|apply qk_round_ret|apply qk_round_exit)|((with_reducible apply ws);exact rfl;exact rfl)|((with_reducible apply wl_yes);exact rfl;exact rfl;exact rfl)|((with_reducible apply wl_no);exact rfl;exact rfl;exact rfl;exact rfl)|((with_reducible apply wl_noU);exact rfl;exact rfl;exact rfl)
      refine wl_loadB rfl to_int rfl hb3 rfl ?_
      refine wl_conv .u32 rfl ti_i64 ti_u32 rfl (r := fs[i].tag) (by rw [IntKind.wrap_u32]; omega) ?_
      refine wl_add rfl rfl rfl (r := fs[i].tag + 1) (by rw [IntKind.wrap_u32]; omega) ?_
      refine wl_max rfl rfl rfl (r := ((known (fs.take (i + 1)) : Nat) : Int)) (by rw [hsn]; split <;> omega) ?_
      repeat first|(with_reducible first|apply wc_seq|apply wc_region|apply wl_nil|apply qk_thn|apply wc_block|apply wc_skip|apply wc_ret|apply wc_exit|apply qk_thn_ret|apply qk_in_ret|apply qk_in|apply qk_thn_exit|apply qk_in_exit|apply qk_round_ret|apply qk_round_exit)|((with_reducible apply ws);exact rfl;exact rfl)|((with_reducible apply wl_yes);exact rfl;exact rfl;exact rfl)|((with_reducible apply wl_no);exact rfl;exact rfl;exact rfl;exact rfl)|((with_reducible apply wl_noU);exact rfl;exact rfl;exact rfl)
      refine wl_add rfl rfl rfl (r := ((i + 1 : Nat) : Int)) (by rw [IntKind.wrap_i64]; omega) ?_
      repeat first|(with_reducible first|apply wc_seq|apply wc_region|apply wl_nil|apply qk_thn|apply wc_block|apply wc_skip|apply wc_ret|apply wc_exit|apply qk_thn_ret|apply qk_in_ret|apply qk_in|apply qk_thn_exit|apply qk_in_exit|apply qk_round_ret|apply qk_round_exit)|((with_reducible apply ws);exact rfl;exact rfl)|((with_reducible apply wl_yes);exact rfl;exact rfl;exact rfl)|((with_reducible apply wl_no);exact rfl;exact rfl;exact rfl;exact rfl)|((with_reducible apply wl_noU);exact rfl;exact rfl;exact rfl)
      exact qk_round (i + 1) ⟨rfl, rfl, rfl, rfl, trivial⟩ ⟨by omega, hw3⟩ (by omega)
    · refine wc_no rfl (by simpa using htag) ?_
      rw [if_neg htag] at hsn
      repeat first|(with_reducible first|apply wc_seq|apply wc_region|apply wl_nil|apply qk_thn|apply wc_block|apply wc_skip|apply wc_ret|apply wc_exit|apply qk_thn_ret|apply qk_in_ret|apply qk_in|apply qk_thn_exit|apply qk_in_exit|apply qk_round_ret|apply qk_round_exit)|((with_reducible apply ws);exact rfl;exact rfl)|((with_reducible apply wl_yes);exact rfl;exact rfl;exact rfl)|((with_reducible apply wl_no);exact rfl;exact rfl;exact rfl;exact rfl)|((with_reducible apply wl_noU);exact rfl;exact rfl;exact rfl)
      refine wl_add rfl rfl rfl (r := ((i + 1 : Nat) : Int)) (by rw [IntKind.wrap_i64]; omega) ?_
      repeat first|(with_reducible first|apply wc_seq|apply wc_region|apply wl_nil|apply qk_thn|apply wc_block|apply wc_skip|apply wc_ret|apply wc_exit|apply qk_thn_ret|apply qk_in_ret|apply qk_in|apply qk_thn_exit|apply qk_in_exit|apply qk_round_ret|apply qk_round_exit)|((with_reducible apply ws);exact rfl;exact rfl)|((with_reducible apply wl_yes);exact rfl;exact rfl;exact rfl)|((with_reducible apply wl_no);exact rfl;exact rfl;exact rfl;exact rfl)|((with_reducible apply wl_noU);exact rfl;exact rfl;exact rfl)
      exact qk_round (i + 1) ⟨rfl, rfl, rfl, by rw [hsn]; rfl, trivial⟩ ⟨by omega, hw3⟩ (by omega)
  · refine wc_no rfl (by simpa using hlt) ?_
    repeat first|(with_reducible first|apply wc_seq|apply wc_region|apply wl_nil|apply qk_thn|apply wc_block|apply wc_skip|apply wc_ret|apply wc_exit|apply qk_thn_ret|apply qk_in_ret|apply qk_in|apply qk_thn_exit|apply qk_in_exit|apply qk_round_ret|apply qk_round_exit)|((with_reducible apply ws);exact rfl;exact rfl)|((with_reducible apply wl_yes);exact rfl;exact rfl;exact rfl)|((with_reducible apply wl_no);exact rfl;exact rfl;exact rfl;exact rfl)|((with_reducible apply wl_noU);exact rfl;exact rfl;exact rfl)
    refine qk_ret1 rfl rfl ⟨_, rfl, hw, ?_⟩
    rw [List.take_of_length_le (by omega)]
end
end Go.Proofs.Ytaoecdeljfdmeaa
