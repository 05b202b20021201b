/- What the reference writes of a part, given what it writes of a field. -/
import Derived.Test.YtaoecdeljfdmeaaWriteC
import Derived.Test.YtaoecdeljfdmeaaFitP
namespace Go.Proofs.Ytaoecdeljfdmeaa
open Go Go.RowKit

theorem wFs_drop (ver : Int) (flex : Bool) (fs : List Fld) (t : Tree) {i : Nat} (hi : i < fs.length) : wFs ver flex (fs.drop i) i t =
    (if fs[i].tag < 0 ∧ fs[i].has ver = true then wField ver flex fs[i] (att t i) else []) ++ wFs ver flex (fs.drop (i + 1)) (i + 1) t := by
  rw [List.drop_eq_getElem_cons hi]
  simp only [wFs]
theorem wTs_drop (ver : Int) (flex : Bool) (fs : List Fld) (k : Nat) (t : Tree) {i : Nat} (hi : i < fs.length) : wTs ver flex (fs.drop i) i k t =
    (if fs[i].tag = (k : Int) ∧ usual fs[i] (att t i) = false then [(k, wField ver flex fs[i] (att t i))] else []) ++ wTs ver flex (fs.drop (i + 1)) (i + 1) k t := by
  rw [List.drop_eq_getElem_cons hi]
  simp only [wTs]
def tagB (l : List (Nat × List UInt8)) : List UInt8 := l.flatMap fun kv => wTag kv.1 kv.2
theorem tagB_append (a b : List (Nat × List UInt8)) : tagB (a ++ b) = tagB a ++ tagB b := by simp [tagB]
theorem tagB_one (k : Nat) (b : List UInt8) : tagB [(k, b)] = wTag k b := by simp [tagB]
theorem tagB_len (l : List (Nat × List UInt8)) : l.length ≤ (tagB l).length := by
  induction l with
  | nil => simp
  | cons a l ih =>
    have : tagB (a :: l) = wTag a.1 a.2 ++ tagB l := by simp [tagB]
    rw [this]
    have := uvar_pos a.1
    simp only [List.length_cons, List.length_append, wTag]; omega
theorem wTag_len (k : Nat) (b : List UInt8) : b.length ≤ (wTag k b).length := by simp [wTag]; omega
/-- The tags of the fields with tags below m. -/
def below (ver : Int) (flex : Bool) (fs : List Fld) (t : Tree) (m : Nat) : List (Nat × List UInt8) := (List.range m).flatMap fun k => wTs ver flex fs 0 k t
theorem below_succ (ver : Int) (flex : Bool) (fs : List Fld) (t : Tree) (m : Nat) : below ver flex fs t (m + 1) = below ver flex fs t m ++ wTs ver flex fs 0 m t := by
  simp [below, List.range_succ]
theorem below_le (ver : Int) (flex : Bool) (fs : List Fld) (t : Tree) {m n : Nat} (h : m ≤ n) : (tagB (below ver flex fs t m)).length ≤ (tagB (below ver flex fs t n)).length := by
  induction n with
  | zero => have : m = 0 := by omega
            subst this; exact Nat.le_refl _
  | succ n ih =>
    by_cases h1 : m = n + 1
    · subst h1; exact Nat.le_refl _
    · have := ih (by omega)
      rw [below_succ, tagB_append, List.length_append]; omega

theorem allTags_eq (ver : Int) (flex : Bool) (fs : List Fld) (t : Tree) : allTags ver flex fs t = below ver flex fs t (known fs) ++ others fs t.u := rfl
theorem wPart_false (ver : Int) (fs : List Fld) (t : Tree) : wPart ver false fs t = wFs ver false fs 0 t := rfl
theorem wPart_true (ver : Int) (fs : List Fld) (t : Tree) : wPart ver true fs t = wFs ver true fs 0 t ++ (uvar (allTags ver true fs t).length ++ tagB (allTags ver true fs t)) := rfl
theorem putTag_mem (k : Nat) (v : List UInt8) (l : List (Nat × List UInt8)) : ∀ x ∈ putTag k v l, x = (k, v) ∨ x ∈ l := by
  induction l with
  | nil => intro x hx; simp [putTag] at hx; exact .inl hx
  | cons a l ih =>
    intro x hx
    simp only [putTag] at hx
    split at hx
    · rcases List.mem_cons.1 hx with rfl | h
      · exact .inr (by simp)
      · rcases ih x h with h | h
        · exact .inl h
        · exact .inr (by simp [h])
    · split at hx
      · exact .inr hx
      · rcases List.mem_cons.1 hx with rfl | h
        · exact .inl rfl
        · exact .inr h
theorem unknown_mem (fs : List Fld) (u : List (Nat × List UInt8)) : ∀ x ∈ unknown fs u, x ∈ u := by
  have : ∀ (l out : List (Nat × List UInt8)), ∀ x ∈ l.foldl (step (known fs)) out, x ∈ out ∨ x ∈ l := by
    intro l
    induction l with
    | nil => intro out x hx; exact .inl hx
    | cons a l ih =>
      intro out x hx
      rcases ih _ x hx with h | h
      · unfold step at h
        split at h
        · exact .inl h
        · rcases putTag_mem _ _ _ x h with rfl | h
          · exact .inr (by simp)
          · exact .inl h
      · exact .inr (by simp [h])
  intro x hx
  rcases this (u.take Most) [] x hx with h | h
  · cases h
  · exact List.mem_of_mem_take h
theorem unknown_len (fs : List Fld) (u : List (Nat × List UInt8)) : (unknown fs u).length ≤ 32767 := by
  have := step_fold_length (known fs) (u.take Most) []
  simp only [List.length_nil, List.length_take, Nat.zero_add] at this
  exact Nat.le_trans this (Nat.min_le_left _ _)

theorem apart_of {v d : Value} {n : Nat} (hv : ∀ g, v.ownBlock = some g → n ≤ g) (hd : ∀ g, d.ownBlock = some g → g < n) : v.ownBlock = none ∨ v.ownBlock ≠ d.ownBlock := by
  cases h : v.ownBlock with
  | none => exact .inl rfl
  | some g => exact .inr (fun e => by have h1 := hv g h; have h2 := hd g e.symm; omega)
/-- What lies apart from a slice that grows stays as it is, and apart. -/
theorem Own.apart {w w' : World} {B u8 : Nat} {v d d' : Value} {ys : List UInt8} (hv : Own w B u8 v ys) (hd : v.ownBlock = none ∨ v.ownBlock ≠ d.ownBlock) (hg : Grew w w' d d') : Own w' B u8 v ys ∧ (v.ownBlock = none ∨ v.ownBlock ≠ d'.ownBlock) := by
  refine ⟨hv.kept hg.grown hd, ?_⟩
  rcases hd with h | h
  · exact .inl h
  · rcases hg.fresh with hf | hf
    · exact .inr (by rw [hf]; exact h)
    · cases hvb : v.ownBlock with
      | none => exact .inl rfl
      | some g => exact .inr (fun e => by have h1 := hf g e.symm; have h2 := hv.lt g hvb; omega)
theorem does_pick {P : Program} {N : Nat} {L : Sl} {a : Act} {w : World} {d : Option Nat} {ty : TypeId} {pos : String} {aft : Array Edge} {g : Option (Nat × Bool)} {c x y : Operand} {b : Bool} {v : Value} {R : Value → World → Prop} (k : Kn N a L) (hc : ev L c = some (.bool b)) (hv : ev L (bif b then x else y) = some v) (h : R v w) : Does P ⟨d, .pick c x y, ty, pos, aft, g⟩ a w R := does_of (rn_pick k hc hv) h
theorem Below.between {n : Nat} {a b c : World} (h : Below n a b) (k : Below n a c) (hs : b.heap.size ≤ c.heap.size) : Below n b c :=
  ⟨k.os.trans h.os.symm, k.tape.trans h.tape.symm, k.output.trans h.output.symm, hs, fun i hi => (k.block i hi).trans (h.block i hi).symm⟩
structure PtS where
  i : Nat
  d : Value
  xs : List UInt8
structure PtT where
  k : Nat
  d : Value
  l : List (Nat × List UInt8)
section
set_option maxRecDepth 100000
theorem part_of (fs : List Fld) (hfs : fsok fs = true) (hF : ∀ f ∈ fs, FieldOK f) (hU : ∀ f ∈ fs, UsualOK f) : PartOK fs := by
  intro flex ver t B w fv ts hok hB hf ht hlim
  obtain ⟨sv2, lv, uv, rfl, hs, hl, hu⟩ := tree_cells ht
  obtain ⟨fa, fc, rfl, _⟩ := hf.shape
  have hn := fsok.len hfs
  rw [List.length_map] at *
  have hFs : (wFs ver flex fs 0 t).length ≤ lim := by
    cases flex
    · exact hlim
    · rw [wPart_true, List.length_append] at hlim; omega
  refine enter Try.func34 rfl Try.ntmps34 rfl ?_
  repeat first|(with_reducible first|apply wc_seq|apply wc_region|apply wl_nil|apply qk_thn|apply wc_block|apply wc_skip|apply wc_ret|apply wc_exit|apply qk_thn_ret|apply qk_in_ret|apply qk_in|apply qk_thn_exit|apply qk_in_exit|apply qk_round_ret|apply qk_round_exit)|((with_reducible apply ws);exact rfl;exact rfl)|((with_reducible apply wl_yes);exact rfl;exact rfl;exact rfl)|((with_reducible apply wl_no);exact rfl;exact rfl;exact rfl;exact rfl)|((with_reducible apply wl_noU);exact rfl;exact rfl;exact rfl)
  refine wl_box1 rfl rfl rfl (fun w1 hb1 hg1 hs1 => ?_)
  have hw1 : Below w.heap.size w w1 := below_of hg1 (Nat.le_refl _) (by simp)
  refine wl_assign rfl rfl (wl_nil (qk_thn ?_))
  refine wc_seq (wc_region ?_)
  repeat first|((with_reducible apply ws);exact rfl;exact rfl)|((with_reducible apply wl_yes);exact rfl;exact rfl;exact rfl)|((with_reducible apply wl_no);exact rfl;exact rfl;exact rfl;exact rfl)|((with_reducible apply wl_noU);exact rfl;exact rfl;exact rfl)
  refine wl_nil (qk_thn (wc_seq (wc_region ?_)))
  repeat first|((with_reducible apply ws);exact rfl;exact rfl)|((with_reducible apply wl_yes);exact rfl;exact rfl;exact rfl)|((with_reducible apply wl_no);exact rfl;exact rfl;exact rfl;exact rfl)|((with_reducible apply wl_noU);exact rfl;exact rfl;exact rfl)
  refine wl_nil (qk_thn ?_)
  refine wc_cut (α := PtS) (fun s => [(9, s.d), (10, .slice none 0 0), (11, .int .i64 0), (7, .pointer (some ⟨w.heap.size, 0, none⟩)), (2, .bool flex), (1, .int .i64 ver), (0, .slice fa fs.length fc)])
    (fun s w' => Below w1.heap.size w1 w' ∧ Own w' w1.heap.size 5 s.d (wFs ver flex fs 0 t)) ?_ ?_
  · repeat first|(with_reducible first|apply wc_seq|apply wc_region|apply wl_nil|apply qk_thn|apply wc_block|apply wc_skip|apply wc_ret|apply wc_exit|apply qk_thn_ret|apply qk_in_ret|apply qk_in|apply qk_thn_exit|apply qk_in_exit|apply qk_round_ret|apply qk_round_exit)|((with_reducible apply ws);exact rfl;exact rfl)|((with_reducible apply wl_yes);exact rfl;exact rfl;exact rfl)|((with_reducible apply wl_no);exact rfl;exact rfl;exact rfl;exact rfl)|((with_reducible apply wl_noU);exact rfl;exact rfl;exact rfl)
    refine wc_loop (α := PtS) (fun s => [(23, .int .i64 (s.i : Int)), (22, .int .i64 (fs.length : Int)), (21, .slice fa fs.length fc), (9, s.d), (10, .slice none 0 0), (11, .int .i64 0), (7, .pointer (some ⟨w.heap.size, 0, none⟩)), (2, .bool flex), (1, .int .i64 ver), (0, .slice fa fs.length fc)])
      (fun s w' => s.i ≤ fs.length ∧ Below w1.heap.size w1 w' ∧ Own w' w1.heap.size 5 s.d s.xs ∧ s.xs ++ wFs ver flex (fs.drop s.i) s.i t = wFs ver flex fs 0 t) (fun s => fs.length - s.i) ⟨0, .slice none 0 0, []⟩ ⟨rfl, rfl, rfl, rfl, rfl, rfl, rfl, rfl, rfl, rfl, trivial⟩ ⟨Nat.zero_le _, Below.refl _ _, Own.nil _ _ _, rfl⟩ ?_
    rintro ⟨i, d, xs⟩ w2 ⟨hi, hw2, ho2, hx⟩
    simp only [] at hi ho2 hx
    change WC _ _ _ _ [(23, .int .i64 (i : Int)), (22, .int .i64 (fs.length : Int)), (21, .slice fa fs.length fc), (9, d), (10, .slice none 0 0), (11, .int .i64 0), (7, .pointer (some ⟨w.heap.size, 0, none⟩)), (2, .bool flex), (1, .int .i64 ver), (0, .slice fa fs.length fc)] _
    have hw02 : Below w.heap.size w w2 := hw1.trans (hw2.mono (by omega))
    repeat first|(with_reducible first|apply wc_seq|apply wc_region|apply wl_nil|apply qk_thn|apply wc_block|apply wc_skip|apply wc_ret|apply wc_exit|apply qk_thn_ret|apply qk_in_ret|apply qk_in|apply qk_thn_exit|apply qk_in_exit|apply qk_round_ret|apply qk_round_exit)|((with_reducible apply ws);exact rfl;exact rfl)|((with_reducible apply wl_yes);exact rfl;exact rfl;exact rfl)|((with_reducible apply wl_no);exact rfl;exact rfl;exact rfl;exact rfl)|((with_reducible apply wl_noU);exact rfl;exact rfl;exact rfl)
    by_cases hlt : i < fs.length
    · refine wc_yes rfl (by simpa using hlt) ?_
      obtain ⟨b, off, c', cs, hv, _, hcs, hlen, hr⟩ := (hf.below (hw02.mono hB) (Nat.le_refl _)).get (sz := 8) (i := i) (by intro d hd; obtain ⟨x, _, rfl⟩ := List.mem_map.1 hd; exact fldD_width x) (by simpa using hlt)
      simp only [Value.slice.injEq, List.length_map] at hv
      obtain ⟨rfl, _, rfl⟩ := hv
      simp only [List.getElem_map] at hr
      obtain ⟨hone, _⟩ := fld_one hr
      obtain ⟨sv, hce, _⟩ := fld_cells hr
      subst hce
      have hdr := wFs_drop ver flex fs t hlt
      repeat first|(with_reducible first|apply wc_seq|apply wc_region|apply wl_nil|apply qk_thn|apply wc_block|apply wc_skip|apply wc_ret|apply wc_exit|apply qk_thn_ret|apply qk_in_ret|apply qk_in|apply qk_thn_exit|apply qk_in_exit|apply qk_round_ret|apply qk_round_exit)|((with_reducible apply ws);exact rfl;exact rfl)|((with_reducible apply wl_yes);exact rfl;exact rfl;exact rfl)|((with_reducible apply wl_no);exact rfl;exact rfl;exact rfl;exact rfl)|((with_reducible apply wl_noU);exact rfl;exact rfl;exact rfl)
      refine wl_indexAddr rfl rfl es_flds rfl hlt ?_
      refine wl_loadAgg (cs := [.int .i64 fs[i].kind, .int .i64 fs[i].fr, .int .i64 fs[i].upto, .int .i64 fs[i].nul, .int .i64 fs[i].tag, .int .i64 fs[i].df, .int .i64 fs[i].of, sv]) rfl ta_fld rfl (fun j v e => hcs.cell e) ?_
      refine wl_alloc zv_fld rfl rfl (fun w3 hb3 hg3 hs3 => ?_)
      repeat first|(with_reducible first|apply wc_seq|apply wc_region|apply wl_nil|apply qk_thn|apply wc_block|apply wc_skip|apply wc_ret|apply wc_exit|apply qk_thn_ret|apply qk_in_ret|apply qk_in|apply qk_thn_exit|apply qk_in_exit|apply qk_round_ret|apply qk_round_exit)|((with_reducible apply ws);exact rfl;exact rfl)|((with_reducible apply wl_yes);exact rfl;exact rfl;exact rfl)|((with_reducible apply wl_no);exact rfl;exact rfl;exact rfl;exact rfl)|((with_reducible apply wl_noU);exact rfl;exact rfl;exact rfl)
      refine wl_storeBAgg (vs := [.int .i64 fs[i].kind, .int .i64 fs[i].fr, .int .i64 fs[i].upto, .int .i64 fs[i].nul, .int .i64 fs[i].tag, .int .i64 fs[i].df, .int .i64 fs[i].of, sv]) rfl rfl rfl tz_fld hone hb3 rfl (fun w4 hb4 hg4 hs4 => ?_)
      have hw24 : Below w2.heap.size w2 w4 := (below_of hg3 (Nat.le_refl _) (by simp)).trans (below_of hg4 (by omega) (by intro k hk; simp at hk; omega))
      have hs12 := hw2.size
      have hw14 : Below w1.heap.size w1 w4 := hw2.trans (hw24.mono hs12)
      have hw04 : Below w.heap.size w w4 := hw02.trans (hw24.mono (by omega))
      have ho4 := ho2.below hw24
      have hB4 : B ≤ w4.heap.size := by omega
      repeat first|(with_reducible first|apply wc_seq|apply wc_region|apply wl_nil|apply qk_thn|apply wc_block|apply wc_skip|apply wc_ret|apply wc_exit|apply qk_thn_ret|apply qk_in_ret|apply qk_in|apply qk_thn_exit|apply qk_in_exit|apply qk_round_ret|apply qk_round_exit)|((with_reducible apply ws);exact rfl;exact rfl)|((with_reducible apply wl_yes);exact rfl;exact rfl;exact rfl)|((with_reducible apply wl_no);exact rfl;exact rfl;exact rfl;exact rfl)|((with_reducible apply wl_noU);exact rfl;exact rfl;exact rfl)
      refine wl_loadB rfl to_int rfl hb4 rfl ?_
      repeat first|(with_reducible first|apply wc_seq|apply wc_region|apply wl_nil|apply qk_thn|apply wc_block|apply wc_skip|apply wc_ret|apply wc_exit|apply qk_thn_ret|apply qk_in_ret|apply qk_in|apply qk_thn_exit|apply qk_in_exit|apply qk_round_ret|apply qk_round_exit)|((with_reducible apply ws);exact rfl;exact rfl)|((with_reducible apply wl_yes);exact rfl;exact rfl;exact rfl)|((with_reducible apply wl_no);exact rfl;exact rfl;exact rfl;exact rfl)|((with_reducible apply wl_noU);exact rfl;exact rfl;exact rfl)
      by_cases htag : fs[i].tag < 0
      · have e1 : decide (fs[i].tag < 0) = true := by simpa using htag
        rw [e1]
        repeat first|(with_reducible first|apply wc_seq|apply wc_region|apply wl_nil|apply qk_thn|apply wc_block|apply wc_skip|apply wc_ret|apply wc_exit|apply qk_thn_ret|apply qk_in_ret|apply qk_in|apply qk_thn_exit|apply qk_in_exit|apply qk_round_ret|apply qk_round_exit)|((with_reducible apply ws);exact rfl;exact rfl)|((with_reducible apply wl_yes);exact rfl;exact rfl;exact rfl)|((with_reducible apply wl_no);exact rfl;exact rfl;exact rfl;exact rfl)|((with_reducible apply wl_noU);exact rfl;exact rfl;exact rfl)
        refine wl_loadBAgg (cs := [.int .i64 fs[i].kind, .int .i64 fs[i].fr, .int .i64 fs[i].upto, .int .i64 fs[i].nul, .int .i64 fs[i].tag, .int .i64 fs[i].df, .int .i64 fs[i].of, sv]) rfl ta_fld rfl hb4 ?_
        repeat first|(with_reducible first|apply wc_seq|apply wc_region|apply wl_nil|apply qk_thn|apply wc_block|apply wc_skip|apply wc_ret|apply wc_exit|apply qk_thn_ret|apply qk_in_ret|apply qk_in|apply qk_thn_exit|apply qk_in_exit|apply qk_round_ret|apply qk_round_exit)|((with_reducible apply ws);exact rfl;exact rfl)|((with_reducible apply wl_yes);exact rfl;exact rfl;exact rfl)|((with_reducible apply wl_no);exact rfl;exact rfl;exact rfl;exact rfl)|((with_reducible apply wl_noU);exact rfl;exact rfl;exact rfl)
        refine wl_call rfl (by kernel_rfl) rfl ((fn_has fs[i] ver B w4 hB4 _ (Rep.below hr (hw24.mono (by omega)) (Nat.le_refl _))).mono ?_)
        rintro e w5 ⟨v, rfl, hw5, rfl⟩
        refine ⟨_, rfl, ?_⟩
        have hb5 := hb4.below hw5 hb4.lt
        have hs45 := hw5.size
        have hw15 := hw14.trans (hw5.mono (by omega))
        have hw05 := hw04.trans (hw5.mono (by omega))
        have ho5 := ho4.below hw5
        repeat first|(with_reducible first|apply wc_seq|apply wc_region|apply wl_nil|apply qk_thn|apply wc_block|apply wc_skip|apply wc_ret|apply wc_exit|apply qk_thn_ret|apply qk_in_ret|apply qk_in|apply qk_thn_exit|apply qk_in_exit|apply qk_round_ret|apply qk_round_exit)|((with_reducible apply ws);exact rfl;exact rfl)|((with_reducible apply wl_yes);exact rfl;exact rfl;exact rfl)|((with_reducible apply wl_no);exact rfl;exact rfl;exact rfl;exact rfl)|((with_reducible apply wl_noU);exact rfl;exact rfl;exact rfl)
        cases hh : fs[i].has ver
        · refine wc_no rfl rfl ?_
          repeat first|(with_reducible first|apply wc_seq|apply wc_region|apply wl_nil|apply qk_thn|apply wc_block|apply wc_skip|apply wc_ret|apply wc_exit|apply qk_thn_ret|apply qk_in_ret|apply qk_in|apply qk_thn_exit|apply qk_in_exit|apply qk_round_ret|apply qk_round_exit)|((with_reducible apply ws);exact rfl;exact rfl)|((with_reducible apply wl_yes);exact rfl;exact rfl;exact rfl)|((with_reducible apply wl_no);exact rfl;exact rfl;exact rfl;exact rfl)|((with_reducible apply wl_noU);exact rfl;exact rfl;exact rfl)
          refine wl_add rfl rfl rfl (r := ((i + 1 : Nat) : Int)) (by rw [IntKind.wrap_i64]; omega) ?_
          repeat first|(with_reducible first|apply wc_seq|apply wc_region|apply wl_nil|apply qk_thn|apply wc_block|apply wc_skip|apply wc_ret|apply wc_exit|apply qk_thn_ret|apply qk_in_ret|apply qk_in|apply qk_thn_exit|apply qk_in_exit|apply qk_round_ret|apply qk_round_exit)|((with_reducible apply ws);exact rfl;exact rfl)|((with_reducible apply wl_yes);exact rfl;exact rfl;exact rfl)|((with_reducible apply wl_no);exact rfl;exact rfl;exact rfl;exact rfl)|((with_reducible apply wl_noU);exact rfl;exact rfl;exact rfl)
          refine qk_round ⟨i + 1, d, xs⟩ ⟨rfl, rfl, rfl, rfl, rfl, rfl, rfl, rfl, rfl, rfl, trivial⟩ ⟨by simp only []; omega, hw15, ho5, ?_⟩ (by simp only []; omega)
          rw [hdr, if_neg (by rw [hh]; simp)] at hx
          exact hx
        · refine wc_yes rfl rfl ?_
          rw [hdr, if_pos ⟨htag, hh⟩] at hx
          have hxl := congrArg List.length hx
          simp only [List.length_append] at hxl
          repeat first|(with_reducible first|apply wc_seq|apply wc_region|apply wl_nil|apply qk_thn|apply wc_block|apply wc_skip|apply wc_ret|apply wc_exit|apply qk_thn_ret|apply qk_in_ret|apply qk_in|apply qk_thn_exit|apply qk_in_exit|apply qk_round_ret|apply qk_round_exit)|((with_reducible apply ws);exact rfl;exact rfl)|((with_reducible apply wl_yes);exact rfl;exact rfl;exact rfl)|((with_reducible apply wl_no);exact rfl;exact rfl;exact rfl;exact rfl)|((with_reducible apply wl_noU);exact rfl;exact rfl;exact rfl)
          have hw25 : Below w2.heap.size w2 w5 := hw24.trans (hw5.mono (by omega))
          refine wc_par [(0, d), (1, .agg ([.int .i64 fs[i].kind, .int .i64 fs[i].fr, .int .i64 fs[i].upto, .int .i64 fs[i].nul, .int .i64 fs[i].tag, .int .i64 fs[i].df, .int .i64 fs[i].of, sv] : List Value).toArray), (2, .int .i64 ver), (3, .bool flex), (4, .agg ([.int .i64 t.n, sv2, .bool t.nul, lv, uv] : List Value).toArray), (5, .int .i64 (i : Int))] [9, 8, 7, 6]
            (fun vals w' => Below w1.heap.size w1 w' ∧ Box w' w2.heap.size [.int .i64 fs[i].kind, .int .i64 fs[i].fr, .int .i64 fs[i].upto, .int .i64 fs[i].nul, .int .i64 fs[i].tag, .int .i64 fs[i].df, .int .i64 fs[i].of, sv] 46 ∧ match vals with
              | [] => Below w5.heap.size w5 w'
              | [v] => Below w5.heap.size w5 w' ∧ ∃ xs' : List Value, v = .agg xs'.toArray ∧ Rep (Lo B) w' (treeD (att t i)) xs'
              | [v, _] => Below w5.heap.size w5 w' ∧ Own w' w5.heap.size 5 v (wField ver flex fs[i] (att t i))
              | v :: _ => Own w' w1.heap.size 5 v (xs ++ wField ver flex fs[i] (att t i)))
            mixed rfl rfl rfl rfl rfl (by show ([0,1,2,3,4,5] : List Nat).Nodup; decide) rfl rfl (by decide) rfl rfl rfl rfl ⟨hw15.drew, hb5, (Below.refl _ w5).drew⟩ ?_ ⟨?_, ?_, ?_, ?_, trivial⟩ ?_
          · intro p hp vals w' hC a k
            simp only [List.mem_cons, List.not_mem_nil, or_false] at hp
            rcases hp with rfl | rfl | rfl | rfl | rfl | rfl
            · exact gv rfl rfl (rn_move k rfl)
            · exact gv rfl rfl (rn_loadBAgg k rfl ta_fld hC.2.1)
            · exact gv rfl rfl (rn_move k rfl)
            · exact gv rfl rfl (rn_move k rfl)
            · exact gv rfl rfl (rn_loadBAgg k rfl ta_tree (hb1.below hC.1 (by omega)))
            · exact gv rfl rfl (rn_move k rfl)
          · rintro vals w' hvl ⟨hb', hbx', hC⟩ a k
            match vals, hvl with
            | [v8, v7, v6], _ => exact ⟨_, rfl, does_assign k rfl ⟨hb', hbx', hC⟩⟩
          · rintro vals w' hvl ⟨hb', hbx', hC⟩ a k
            match vals, hvl with
            | [v7, v6], _ =>
              obtain ⟨hb5', ho7⟩ := hC
              have hod := ho5.below hb5'
              refine ⟨_, rfl, does_appSl k tb_bytes tb_bytes rfl rfl ho7.bytes hod (by have := hb'.size; omega) (by omega) (fun d' w'' ho'' hg'' => ⟨hb'.trans (hg''.below hb'.size hod.ge), hbx'.kept hg''.grown ?_, ho''⟩)⟩
              intro e
              have := ho2.lt _ e.symm
              omega
          · rintro vals w' hvl ⟨hb', hbx', hC⟩ a k
            match vals, hvl with
            | [v6], _ =>
              obtain ⟨hb5', xs', rfl, hxr⟩ := hC
              have hs5' := hb5'.size
              refine ⟨_, rfl, does_call k rfl (by kernel_rfl) ((hF fs[i] (List.getElem_mem hlt) flex ver (att t i) B w' _ _ (hok.at i) (by omega) (Rep.below hr ((hw25.trans (hb5'.mono (by omega))).mono (by omega)) (Nat.le_refl _)) hxr (by omega)).mono ?_)⟩
              rintro e w'' ⟨v, rfl, hb'', ho⟩
              exact ⟨_, rfl, hb'.trans (hb''.mono hb'.size), hbx'.below hb'' hbx'.lt, hb5'.trans (hb''.mono hs5'), ho.mono hs5'⟩
          · rintro vals w' hvl ⟨hb', hbx', hC⟩ a k
            match vals, hvl with
            | [], _ =>
              simp only [] at hC
              have hs5' := hC.size
              refine ⟨_, rfl, does_call k rfl (by kernel_rfl) ((fn_at t i B w' (by omega) _ (Rep.below ht ((hw05.trans (hC.mono (by omega))).mono hB) (Nat.le_refl _))).mono ?_)⟩
              rintro e w'' ⟨v, rfl, hb'', xs', rfl, hxr⟩
              exact ⟨_, rfl, hb'.trans (hb''.mono hb'.size), hbx'.below hb'' hbx'.lt, hC.trans (hb''.mono hs5'), xs', rfl, hxr⟩
          · rintro vals w' hvl ⟨hb', hbx', hC⟩
            match vals, hvl with
            | [v9, v8, v7, v6], _ =>
              refine qk_thn ?_
              repeat first|(with_reducible first|apply wc_seq|apply wc_region|apply wl_nil|apply qk_thn|apply wc_block|apply wc_skip|apply wc_ret|apply wc_exit|apply qk_thn_ret|apply qk_in_ret|apply qk_in|apply qk_thn_exit|apply qk_in_exit|apply qk_round_ret|apply qk_round_exit)|((with_reducible apply ws);exact rfl;exact rfl)|((with_reducible apply wl_yes);exact rfl;exact rfl;exact rfl)|((with_reducible apply wl_no);exact rfl;exact rfl;exact rfl;exact rfl)|((with_reducible apply wl_noU);exact rfl;exact rfl;exact rfl)
              refine wl_add rfl rfl rfl (r := ((i + 1 : Nat) : Int)) (by rw [IntKind.wrap_i64]; omega) ?_
              repeat first|(with_reducible first|apply wc_seq|apply wc_region|apply wl_nil|apply qk_thn|apply wc_block|apply wc_skip|apply wc_ret|apply wc_exit|apply qk_thn_ret|apply qk_in_ret|apply qk_in|apply qk_thn_exit|apply qk_in_exit|apply qk_round_ret|apply qk_round_exit)|((with_reducible apply ws);exact rfl;exact rfl)|((with_reducible apply wl_yes);exact rfl;exact rfl;exact rfl)|((with_reducible apply wl_no);exact rfl;exact rfl;exact rfl;exact rfl)|((with_reducible apply wl_noU);exact rfl;exact rfl;exact rfl)
              refine qk_round ⟨i + 1, v9, xs ++ wField ver flex fs[i] (att t i)⟩ ⟨rfl, rfl, rfl, rfl, rfl, rfl, rfl, rfl, rfl, rfl, trivial⟩ ⟨by simp only []; omega, hb', hC, ?_⟩ (by simp only []; omega)
              rw [List.append_assoc]; exact hx
      · have e1 : decide (fs[i].tag < 0) = false := by simpa using htag
        rw [e1]
        repeat first|(with_reducible first|apply wc_seq|apply wc_region|apply wl_nil|apply qk_thn|apply wc_block|apply wc_skip|apply wc_ret|apply wc_exit|apply qk_thn_ret|apply qk_in_ret|apply qk_in|apply qk_thn_exit|apply qk_in_exit|apply qk_round_ret|apply qk_round_exit)|((with_reducible apply ws);exact rfl;exact rfl)|((with_reducible apply wl_yes);exact rfl;exact rfl;exact rfl)|((with_reducible apply wl_no);exact rfl;exact rfl;exact rfl;exact rfl)|((with_reducible apply wl_noU);exact rfl;exact rfl;exact rfl)
        refine wc_no rfl rfl ?_
        repeat first|(with_reducible first|apply wc_seq|apply wc_region|apply wl_nil|apply qk_thn|apply wc_block|apply wc_skip|apply wc_ret|apply wc_exit|apply qk_thn_ret|apply qk_in_ret|apply qk_in|apply qk_thn_exit|apply qk_in_exit|apply qk_round_ret|apply qk_round_exit)|((with_reducible apply ws);exact rfl;exact rfl)|((with_reducible apply wl_yes);exact rfl;exact rfl;exact rfl)|((with_reducible apply wl_no);exact rfl;exact rfl;exact rfl;exact rfl)|((with_reducible apply wl_noU);exact rfl;exact rfl;exact rfl)
        refine wl_add rfl rfl rfl (r := ((i + 1 : Nat) : Int)) (by rw [IntKind.wrap_i64]; omega) ?_
        repeat first|(with_reducible first|apply wc_seq|apply wc_region|apply wl_nil|apply qk_thn|apply wc_block|apply wc_skip|apply wc_ret|apply wc_exit|apply qk_thn_ret|apply qk_in_ret|apply qk_in|apply qk_thn_exit|apply qk_in_exit|apply qk_round_ret|apply qk_round_exit)|((with_reducible apply ws);exact rfl;exact rfl)|((with_reducible apply wl_yes);exact rfl;exact rfl;exact rfl)|((with_reducible apply wl_no);exact rfl;exact rfl;exact rfl;exact rfl)|((with_reducible apply wl_noU);exact rfl;exact rfl;exact rfl)
        refine qk_round ⟨i + 1, d, xs⟩ ⟨rfl, rfl, rfl, rfl, rfl, rfl, rfl, rfl, rfl, rfl, trivial⟩ ⟨by simp only []; omega, hw14, ho4, ?_⟩ (by simp only []; omega)
        rw [hdr, if_neg (fun h => htag h.1)] at hx
        exact hx
    · refine wc_no rfl (by simpa using hlt) ?_
      repeat first|(with_reducible first|apply wc_seq|apply wc_region|apply wl_nil|apply qk_thn|apply wc_block|apply wc_skip|apply wc_ret|apply wc_exit|apply qk_thn_ret|apply qk_in_ret|apply qk_in|apply qk_thn_exit|apply qk_in_exit|apply qk_round_ret|apply qk_round_exit)|((with_reducible apply ws);exact rfl;exact rfl)|((with_reducible apply wl_yes);exact rfl;exact rfl;exact rfl)|((with_reducible apply wl_no);exact rfl;exact rfl;exact rfl;exact rfl)|((with_reducible apply wl_noU);exact rfl;exact rfl;exact rfl)
      refine qk_cut ⟨0, d, xs⟩ ⟨rfl, rfl, rfl, rfl, rfl, rfl, rfl, trivial⟩ ⟨hw2, ?_⟩
      rw [List.drop_of_length_le (by omega)] at hx
      simp only [wFs, List.append_nil] at hx
      rw [← hx]; exact ho2
  rintro ⟨_, out, _⟩ w2 ⟨hw2, ho2⟩
  simp only [] at ho2
  have hs12 := hw2.size
  have hw02 : Below w.heap.size w w2 := hw1.trans (hw2.mono (by omega))
  refine wc_seq (wc_seq (wc_region ?_))
  repeat first|((with_reducible apply ws);exact rfl;exact rfl)|((with_reducible apply wl_yes);exact rfl;exact rfl;exact rfl)|((with_reducible apply wl_no);exact rfl;exact rfl;exact rfl;exact rfl)|((with_reducible apply wl_noU);exact rfl;exact rfl;exact rfl)
  refine wl_nil (qk_thn ?_)
  cases flex
  · refine wc_yes rfl rfl ?_
    repeat first|(with_reducible first|apply wc_seq|apply wc_region|apply wl_nil|apply qk_thn|apply wc_block|apply wc_skip|apply wc_ret|apply wc_exit|apply qk_thn_ret|apply qk_in_ret|apply qk_in|apply qk_thn_exit|apply qk_in_exit|apply qk_round_ret|apply qk_round_exit)|((with_reducible apply ws);exact rfl;exact rfl)|((with_reducible apply wl_yes);exact rfl;exact rfl;exact rfl)|((with_reducible apply wl_no);exact rfl;exact rfl;exact rfl;exact rfl)|((with_reducible apply wl_noU);exact rfl;exact rfl;exact rfl)
    exact qk_ret1 rfl rfl ⟨_, rfl, hw02, by rw [wPart_false]; exact ho2.mono (by omega)⟩
  refine wc_no rfl rfl ?_
  refine wc_skip (qk_thn ?_)
  have hKn := known_le (fsok.tag hfs)
  have hlimA := hlim
  rw [wPart_true, allTags_eq] at hlimA
  simp only [List.length_append, tagB_append] at hlimA
  refine wc_cut (α := PtT) (fun s => [(10, s.d), (11, .int .i64 (s.l.length : Int)), (9, out), (7, .pointer (some ⟨w.heap.size, 0, none⟩)), (2, .bool true), (1, .int .i64 ver), (0, .slice fa fs.length fc)])
    (fun s w' => Below w2.heap.size w2 w' ∧ Own w' w2.heap.size 5 s.d (tagB s.l) ∧ s.l = below ver true fs t (known fs)) ?_ ?_
  · repeat first|(with_reducible first|apply wc_seq|apply wc_region|apply wl_nil|apply qk_thn|apply wc_block|apply wc_skip|apply wc_ret|apply wc_exit|apply qk_thn_ret|apply qk_in_ret|apply qk_in|apply qk_thn_exit|apply qk_in_exit|apply qk_round_ret|apply qk_round_exit)|((with_reducible apply ws);exact rfl;exact rfl)|((with_reducible apply wl_yes);exact rfl;exact rfl;exact rfl)|((with_reducible apply wl_no);exact rfl;exact rfl;exact rfl;exact rfl)|((with_reducible apply wl_noU);exact rfl;exact rfl;exact rfl)
    refine wl_call rfl (by kernel_rfl) rfl ((fn_known _ fs B w2 (by omega) (hf.below (hw02.mono hB) (Nat.le_refl _)) (fsok.tag hfs) (by omega)).mono ?_)
    rintro e w3 ⟨v, rfl, hw3, rfl⟩
    refine ⟨_, rfl, ?_⟩
    refine wl_conv .i64 rfl ti_u32 ti_i64 rfl (r := (known fs : Int)) (by rw [IntKind.wrap_i64]; omega) ?_
    repeat first|(with_reducible first|apply wc_seq|apply wc_region|apply wl_nil|apply qk_thn|apply wc_block|apply wc_skip|apply wc_ret|apply wc_exit|apply qk_thn_ret|apply qk_in_ret|apply qk_in|apply qk_thn_exit|apply qk_in_exit|apply qk_round_ret|apply qk_round_exit)|((with_reducible apply ws);exact rfl;exact rfl)|((with_reducible apply wl_yes);exact rfl;exact rfl;exact rfl)|((with_reducible apply wl_no);exact rfl;exact rfl;exact rfl;exact rfl)|((with_reducible apply wl_noU);exact rfl;exact rfl;exact rfl)
    refine wc_loop (α := PtT) (fun s => [(52, .int .i64 (s.k : Int)), (51, .int .i64 (known fs : Int)), (10, s.d), (11, .int .i64 (s.l.length : Int)), (9, out), (7, .pointer (some ⟨w.heap.size, 0, none⟩)), (2, .bool true), (1, .int .i64 ver), (0, .slice fa fs.length fc)])
      (fun s w' => s.k ≤ known fs ∧ Below w2.heap.size w2 w' ∧ Own w' w2.heap.size 5 s.d (tagB s.l) ∧ s.l = below ver true fs t s.k) (fun s => known fs - s.k) ⟨0, .slice none 0 0, []⟩ ⟨rfl, rfl, rfl, rfl, rfl, rfl, rfl, rfl, rfl, trivial⟩ ⟨Nat.zero_le _, hw3, Own.nil _ _ _, rfl⟩ ?_
    rintro ⟨k, d, l⟩ w4 ⟨hk, hw4, hd4, hl⟩
    simp only [] at hk hd4 hl
    change WC _ _ _ _ [(52, .int .i64 (k : Int)), (51, .int .i64 (known fs : Int)), (10, d), (11, .int .i64 (l.length : Int)), (9, out), (7, .pointer (some ⟨w.heap.size, 0, none⟩)), (2, .bool true), (1, .int .i64 ver), (0, .slice fa fs.length fc)] _
    repeat first|(with_reducible first|apply wc_seq|apply wc_region|apply wl_nil|apply qk_thn|apply wc_block|apply wc_skip|apply wc_ret|apply wc_exit|apply qk_thn_ret|apply qk_in_ret|apply qk_in|apply qk_thn_exit|apply qk_in_exit|apply qk_round_ret|apply qk_round_exit)|((with_reducible apply ws);exact rfl;exact rfl)|((with_reducible apply wl_yes);exact rfl;exact rfl;exact rfl)|((with_reducible apply wl_no);exact rfl;exact rfl;exact rfl;exact rfl)|((with_reducible apply wl_noU);exact rfl;exact rfl;exact rfl)
    by_cases hkl : k < known fs
    · refine wc_yes rfl (by simpa using hkl) ?_
      repeat first|(with_reducible first|apply wc_seq|apply wc_region|apply wl_nil|apply qk_thn|apply wc_block|apply wc_skip|apply wc_ret|apply wc_exit|apply qk_thn_ret|apply qk_in_ret|apply qk_in|apply qk_thn_exit|apply qk_in_exit|apply qk_round_ret|apply qk_round_exit)|((with_reducible apply ws);exact rfl;exact rfl)|((with_reducible apply wl_yes);exact rfl;exact rfl;exact rfl)|((with_reducible apply wl_no);exact rfl;exact rfl;exact rfl;exact rfl)|((with_reducible apply wl_noU);exact rfl;exact rfl;exact rfl)
      have hbl := below_le ver true fs t (m := k + 1) (n := known fs) hkl
      rw [below_succ, tagB_append, List.length_append] at hbl
      refine wc_loop (α := PtT) (fun s => [(57, .int .i64 (s.k : Int)), (56, .int .i64 (fs.length : Int)), (55, .slice fa fs.length fc), (14, .int .i64 (k : Int)), (52, .int .i64 (k : Int)), (51, .int .i64 (known fs : Int)), (10, s.d), (11, .int .i64 (s.l.length : Int)), (9, out), (7, .pointer (some ⟨w.heap.size, 0, none⟩)), (2, .bool true), (1, .int .i64 ver), (0, .slice fa fs.length fc)])
        (fun s w' => s.k ≤ fs.length ∧ Below w2.heap.size w2 w' ∧ Own w' w2.heap.size 5 s.d (tagB s.l) ∧ s.l ++ wTs ver true (fs.drop s.k) s.k k t = below ver true fs t k ++ wTs ver true fs 0 k t) (fun s => fs.length - s.k) ⟨0, d, l⟩ ⟨rfl, rfl, rfl, rfl, rfl, rfl, rfl, rfl, rfl, rfl, rfl, rfl, rfl, trivial⟩ ⟨Nat.zero_le _, hw4, hd4, by rw [hl]; rfl⟩ ?_
      rintro ⟨i, d, l⟩ w5 ⟨hi, hw5, hd5, hl⟩
      simp only [] at hi hd5 hl
      change WC _ _ _ _ [(57, .int .i64 (i : Int)), (56, .int .i64 (fs.length : Int)), (55, .slice fa fs.length fc), (14, .int .i64 (k : Int)), (52, .int .i64 (k : Int)), (51, .int .i64 (known fs : Int)), (10, d), (11, .int .i64 (l.length : Int)), (9, out), (7, .pointer (some ⟨w.heap.size, 0, none⟩)), (2, .bool true), (1, .int .i64 ver), (0, .slice fa fs.length fc)] _
      have hs25 := hw5.size
      have hw05 : Below w.heap.size w w5 := hw02.trans (hw5.mono (by omega))
      have hll := congrArg (fun x => (tagB x).length) hl
      simp only [tagB_append, List.length_append] at hll
      have hln := tagB_len l
      simp only [lim] at hlimA
      repeat first|(with_reducible first|apply wc_seq|apply wc_region|apply wl_nil|apply qk_thn|apply wc_block|apply wc_skip|apply wc_ret|apply wc_exit|apply qk_thn_ret|apply qk_in_ret|apply qk_in|apply qk_thn_exit|apply qk_in_exit|apply qk_round_ret|apply qk_round_exit)|((with_reducible apply ws);exact rfl;exact rfl)|((with_reducible apply wl_yes);exact rfl;exact rfl;exact rfl)|((with_reducible apply wl_no);exact rfl;exact rfl;exact rfl;exact rfl)|((with_reducible apply wl_noU);exact rfl;exact rfl;exact rfl)
      by_cases hlt : i < fs.length
      · refine wc_yes rfl (by simpa using hlt) ?_
        obtain ⟨b, off, c', cs, hv, _, hcs, hlen, hr⟩ := (hf.below (hw05.mono hB) (Nat.le_refl _)).get (sz := 8) (i := i) (by intro d hd; obtain ⟨x, _, rfl⟩ := List.mem_map.1 hd; exact fldD_width x) (by simpa using hlt)
        simp only [Value.slice.injEq, List.length_map] at hv
        obtain ⟨rfl, _, rfl⟩ := hv
        simp only [List.getElem_map] at hr
        obtain ⟨hone, _⟩ := fld_one hr
        obtain ⟨sv, hce, _⟩ := fld_cells hr
        subst hce
        have hdr := wTs_drop ver true fs k t hlt
        repeat first|(with_reducible first|apply wc_seq|apply wc_region|apply wl_nil|apply qk_thn|apply wc_block|apply wc_skip|apply wc_ret|apply wc_exit|apply qk_thn_ret|apply qk_in_ret|apply qk_in|apply qk_thn_exit|apply qk_in_exit|apply qk_round_ret|apply qk_round_exit)|((with_reducible apply ws);exact rfl;exact rfl)|((with_reducible apply wl_yes);exact rfl;exact rfl;exact rfl)|((with_reducible apply wl_no);exact rfl;exact rfl;exact rfl;exact rfl)|((with_reducible apply wl_noU);exact rfl;exact rfl;exact rfl)
        refine wl_indexAddr rfl rfl es_flds rfl hlt ?_
        refine wl_loadAgg (cs := [.int .i64 fs[i].kind, .int .i64 fs[i].fr, .int .i64 fs[i].upto, .int .i64 fs[i].nul, .int .i64 fs[i].tag, .int .i64 fs[i].df, .int .i64 fs[i].of, sv]) rfl ta_fld rfl (fun j v e => hcs.cell e) ?_
        refine wl_alloc zv_fld rfl rfl (fun w6 hb6 hg6 hs6 => ?_)
        repeat first|(with_reducible first|apply wc_seq|apply wc_region|apply wl_nil|apply qk_thn|apply wc_block|apply wc_skip|apply wc_ret|apply wc_exit|apply qk_thn_ret|apply qk_in_ret|apply qk_in|apply qk_thn_exit|apply qk_in_exit|apply qk_round_ret|apply qk_round_exit)|((with_reducible apply ws);exact rfl;exact rfl)|((with_reducible apply wl_yes);exact rfl;exact rfl;exact rfl)|((with_reducible apply wl_no);exact rfl;exact rfl;exact rfl;exact rfl)|((with_reducible apply wl_noU);exact rfl;exact rfl;exact rfl)
        refine wl_storeBAgg (vs := [.int .i64 fs[i].kind, .int .i64 fs[i].fr, .int .i64 fs[i].upto, .int .i64 fs[i].nul, .int .i64 fs[i].tag, .int .i64 fs[i].df, .int .i64 fs[i].of, sv]) rfl rfl rfl tz_fld hone hb6 rfl (fun w7 hb7 hg7 hs7 => ?_)
        have hw57 : Below w5.heap.size w5 w7 := (below_of hg6 (Nat.le_refl _) (by simp)).trans (below_of hg7 (by omega) (by intro k hk; simp at hk; omega))
        have hw27 : Below w2.heap.size w2 w7 := hw5.trans (hw57.mono hs25)
        have hw07 : Below w.heap.size w w7 := hw02.trans (hw27.mono (by omega))
        have hd7 := hd5.below hw57
        have hs57 := hw57.size
        have hB7 : B ≤ w7.heap.size := by omega
        have htc : ∀ w', Below w7.heap.size w7 w' → Box w' w.heap.size [.int .i64 t.n, sv2, .bool t.nul, lv, uv] 26 := fun w' h => hb1.below (hw2.trans ((hw27.trans (h.mono (by omega))).mono (by omega))) (by omega)
        repeat first|(with_reducible first|apply wc_seq|apply wc_region|apply wl_nil|apply qk_thn|apply wc_block|apply wc_skip|apply wc_ret|apply wc_exit|apply qk_thn_ret|apply qk_in_ret|apply qk_in|apply qk_thn_exit|apply qk_in_exit|apply qk_round_ret|apply qk_round_exit)|((with_reducible apply ws);exact rfl;exact rfl)|((with_reducible apply wl_yes);exact rfl;exact rfl;exact rfl)|((with_reducible apply wl_no);exact rfl;exact rfl;exact rfl;exact rfl)|((with_reducible apply wl_noU);exact rfl;exact rfl;exact rfl)
        have hrw : ∀ w', Below w7.heap.size w7 w' → Rep (Lo B) w' (fldD fs[i]) [.int .i64 fs[i].kind, .int .i64 fs[i].fr, .int .i64 fs[i].upto, .int .i64 fs[i].nul, .int .i64 fs[i].tag, .int .i64 fs[i].df, .int .i64 fs[i].of, sv] := fun w' h => Rep.below hr ((hw57.trans (h.mono hs57)).mono (by omega)) (Nat.le_refl _)
        have htw : ∀ w', Below w7.heap.size w7 w' → Rep (Lo B) w' (treeD t) [.int .i64 t.n, sv2, .bool t.nul, lv, uv] := fun w' h => Rep.below ht ((hw07.trans (h.mono (by omega))).mono hB) (Nat.le_refl _)
        by_cases htk : fs[i].tag = (k : Int)
        · have e1 : (fs[i].tag == (k : Int)) = true := by simpa using htk
          refine wc_par [(0, .pointer (some ⟨w5.heap.size, 0 + 4, none⟩)), (1, .int .i64 fs[i].tag), (2, .int .i64 (k : Int)), (3, .bool true), (4, .bool true), (5, .agg ([.int .i64 fs[i].kind, .int .i64 fs[i].fr, .int .i64 fs[i].upto, .int .i64 fs[i].nul, .int .i64 fs[i].tag, .int .i64 fs[i].df, .int .i64 fs[i].of, sv] : List Value).toArray), (6, .agg ([.int .i64 t.n, sv2, .bool t.nul, lv, uv] : List Value).toArray), (7, .int .i64 (i : Int))] [11, 10, 9, 8]
            (fun vals w' => Below w7.heap.size w7 w' ∧ match vals with
              | [] => True
              | [v] => ∃ xs' : List Value, v = .agg xs'.toArray ∧ Rep (Lo B) w' (treeD (att t i)) xs'
              | [v, _] => v = .bool (usual fs[i] (att t i))
              | v :: _ => v = .bool (!usual fs[i] (att t i)))
            mixed rfl rfl rfl rfl rfl (by show ([0,1,2,3,4,5,6,7] : List Nat).Nodup; decide) rfl rfl (by decide) rfl rfl rfl rfl ⟨(Below.refl _ w7).drew, trivial⟩ ?_ ⟨?_, ?_, ?_, ?_, trivial⟩ ?_
          · intro p hp vals w' hC a k
            simp only [List.mem_cons, List.not_mem_nil, or_false] at hp
            rcases hp with rfl | rfl | rfl | rfl | rfl | rfl | rfl | rfl
            · exact gv rfl rfl (rn_fieldAddr k rfl fo_fld4)
            · exact gv rfl rfl (rn_load k rfl to_int ((hb7.below hC.1 hb7.lt).cell0 (i := 4) rfl))
            · exact gv rfl rfl (rn_move k rfl)
            · refine gv rfl rfl ?_
              rw [← e1]
              exact rn_eql k rfl rfl
            · exact gv rfl rfl (rn_move k rfl)
            · exact gv_yes rfl rfl rfl k rfl rfl (rn_loadBAgg k rfl ta_fld (hb7.below hC.1 hb7.lt))
            · exact gv_yes rfl rfl rfl k rfl rfl (rn_loadBAgg k rfl ta_tree (htc _ hC.1))
            · exact gv_yes rfl rfl rfl k rfl rfl (rn_move k rfl)
          · rintro vals w' hvl ⟨hb', hC⟩ a k
            match vals, hvl with
            | [v10, v9, v8], _ =>
              simp only [] at hC
              subst hC
              exact ⟨_, rfl, does_pick k rfl rfl ⟨hb', rfl⟩⟩
          · rintro vals w' hvl ⟨hb', hC⟩ a k
            match vals, hvl with
            | [v9, v8], _ =>
              simp only [] at hC
              subst hC
              exact ⟨_, rfl, does_not k rfl ⟨hb', rfl⟩⟩
          · rintro vals w' hvl ⟨hb', hC⟩ a k
            match vals, hvl with
            | [v8], _ =>
              obtain ⟨xs', rfl, hxr⟩ := hC
              refine ⟨_, rfl, does_call k rfl (by kernel_rfl) ((hU fs[i] (List.getElem_mem hlt) (att t i) B w' _ _ (hok.at i) (by have := hb'.size; omega) (hrw _ hb') hxr).mono ?_)⟩
              rintro e w'' ⟨v, rfl, hb'', rfl⟩
              exact ⟨_, rfl, hb'.trans (hb''.mono hb'.size), rfl⟩
          · rintro vals w' hvl ⟨hb', hC⟩ a k
            match vals, hvl with
            | [], _ =>
              refine ⟨_, rfl, does_call k rfl (by kernel_rfl) ((fn_at t i B w' (by have := hb'.size; omega) _ (htw _ hb')).mono ?_)⟩
              rintro e w'' ⟨v, rfl, hb'', xs', rfl, hxr⟩
              exact ⟨_, rfl, hb'.trans (hb''.mono hb'.size), xs', rfl, hxr⟩
          · rintro vals w8 hvl ⟨hw78, hC⟩
            match vals, hvl with
            | [v11, v10, v9, v8], _ =>
              simp only [] at hC
              subst hC
              refine qk_thn ?_
              have hs78 := hw78.size
              have hd8 := hd7.below hw78
              have hw28 := hw27.trans (hw78.mono (by omega))
              cases hus : usual fs[i] (att t i)
              · refine wc_yes rfl rfl ?_
                rw [if_pos ⟨htk, hus⟩] at hdr
                rw [hdr] at hl hll
                simp only [tagB_append, tagB_one, List.length_append] at hll
                have hwl := wTag_len k (wField ver true fs[i] (att t i))
                refine wc_seq ?_
                refine wc_par [(0, .agg ([.int .i64 fs[i].kind, .int .i64 fs[i].fr, .int .i64 fs[i].upto, .int .i64 fs[i].nul, .int .i64 fs[i].tag, .int .i64 fs[i].df, .int .i64 fs[i].of, sv] : List Value).toArray), (1, .int .i64 ver), (2, .bool true), (3, .agg ([.int .i64 t.n, sv2, .bool t.nul, lv, uv] : List Value).toArray), (4, .int .i64 (i : Int))] [7, 6, 5]
                  (fun vals w' => Below w8.heap.size w8 w' ∧ match vals with
                    | [] => True
                    | [v] => ∃ xs' : List Value, v = .agg xs'.toArray ∧ Rep (Lo B) w' (treeD (att t i)) xs'
                    | v :: _ => Own w' w8.heap.size 5 v (wField ver true fs[i] (att t i)))
                  mixed rfl rfl rfl rfl rfl (by show ([0,1,2,3,4] : List Nat).Nodup; decide) rfl rfl (by decide) rfl rfl rfl rfl ⟨(Below.refl _ w8).drew, trivial⟩ ?_ ⟨?_, ?_, ?_, trivial⟩ ?_
                · intro p hp vals w' hC a k
                  have h7' := hw78.trans (hC.1.mono hs78)
                  simp only [List.mem_cons, List.not_mem_nil, or_false] at hp
                  rcases hp with rfl | rfl | rfl | rfl | rfl
                  · exact gv rfl rfl (rn_loadBAgg k rfl ta_fld (hb7.below h7' hb7.lt))
                  · exact gv rfl rfl (rn_move k rfl)
                  · exact gv rfl rfl (rn_move k rfl)
                  · exact gv rfl rfl (rn_loadBAgg k rfl ta_tree (htc _ h7'))
                  · exact gv rfl rfl (rn_move k rfl)
                · rintro vals w' hvl ⟨hb', hC⟩ a k
                  match vals, hvl with
                  | [v6, v5], _ => exact ⟨_, rfl, does_assign k rfl ⟨hb', hC⟩⟩
                · rintro vals w' hvl ⟨hb', hC⟩ a k
                  match vals, hvl with
                  | [v5], _ =>
                    obtain ⟨xs', rfl, hxr⟩ := hC
                    have h7' := hw78.trans (hb'.mono hs78)
                    refine ⟨_, rfl, does_call k rfl (by kernel_rfl) ((hF fs[i] (List.getElem_mem hlt) true ver (att t i) B w' _ _ (hok.at i) (by have := hb'.size; omega) (hrw _ h7') hxr (by simp only [lim]; omega)).mono ?_)⟩
                    rintro e w'' ⟨v, rfl, hb'', ho⟩
                    exact ⟨_, rfl, hb'.trans (hb''.mono hb'.size), ho.mono hb'.size⟩
                · rintro vals w' hvl ⟨hb', hC⟩ a k
                  match vals, hvl with
                  | [], _ =>
                    refine ⟨_, rfl, does_call k rfl (by kernel_rfl) ((fn_at t i B w' (by have := hb'.size; omega) _ (htw _ (hw78.trans (hb'.mono hs78)))).mono ?_)⟩
                    rintro e w'' ⟨v, rfl, hb'', xs', rfl, hxr⟩
                    exact ⟨_, rfl, hb'.trans (hb''.mono hb'.size), xs', rfl, hxr⟩
                rintro vals w9 hvl ⟨hw89, hC⟩
                match vals, hvl with
                | [v7, v6, v5], _ =>
                  refine qk_thn ?_
                  simp only [] at hC
                  have hs89 := hw89.size
                  have hd9 := hd8.below hw89
                  have hw29 := hw28.trans (hw89.mono (by omega))
                  have hap := apart_of hC.ge hd8.lt
                  obtain ⟨va, vc, rfl⟩ := hC.shape
                  repeat first|(with_reducible first|apply wc_seq|apply wc_region|apply wl_nil|apply qk_thn|apply wc_block|apply wc_skip|apply wc_ret|apply wc_exit|apply qk_thn_ret|apply qk_in_ret|apply qk_in|apply qk_thn_exit|apply qk_in_exit|apply qk_round_ret|apply qk_round_exit)|((with_reducible apply ws);exact rfl;exact rfl)|((with_reducible apply wl_yes);exact rfl;exact rfl;exact rfl)|((with_reducible apply wl_no);exact rfl;exact rfl;exact rfl;exact rfl)|((with_reducible apply wl_noU);exact rfl;exact rfl;exact rfl)
                  refine wl_conv .u64 rfl ti_i64 ti_u64 rfl (r := (k : Int)) (by rw [IntKind.wrap_u64]; omega) ?_
                  refine wl_call rfl (by kernel_rfl) rfl ((fn_uvarint k (by omega) w9).mono ?_)
                  rintro e w10 ⟨u1, rfl, hw10, hu1⟩
                  refine ⟨u1, rfl, ?_⟩
                  have hs10 := hw10.size
                  have hd10 := hd9.below hw10
                  have hv10 := Own.below hC hw10
                  refine wl_appSl tb_bytes tb_bytes rfl rfl rfl hu1.bytes hd10 (by omega) (by simp only [lim]; simp only [wTag, List.length_append] at hll; omega) (fun d1 w11 hd11 hg11 => ?_)
                  obtain ⟨hv11, hap11⟩ := hv10.apart hap hg11
                  have hs11 := hg11.grown.size
                  repeat first|(with_reducible first|apply wc_seq|apply wc_region|apply wl_nil|apply qk_thn|apply wc_block|apply wc_skip|apply wc_ret|apply wc_exit|apply qk_thn_ret|apply qk_in_ret|apply qk_in|apply qk_thn_exit|apply qk_in_exit|apply qk_round_ret|apply qk_round_exit)|((with_reducible apply ws);exact rfl;exact rfl)|((with_reducible apply wl_yes);exact rfl;exact rfl;exact rfl)|((with_reducible apply wl_no);exact rfl;exact rfl;exact rfl;exact rfl)|((with_reducible apply wl_noU);exact rfl;exact rfl;exact rfl)
                  refine wl_conv .u64 rfl ti_i64 ti_u64 rfl (r := ((wField ver true fs[i] (att t i)).length : Int)) (by rw [IntKind.wrap_u64]; simp only [wTag, List.length_append] at hll; omega) ?_
                  refine wl_call rfl (by kernel_rfl) rfl ((fn_uvarint (wField ver true fs[i] (att t i)).length (by simp only [wTag, List.length_append] at hll; omega) w11).mono ?_)
                  rintro e w12 ⟨u2, rfl, hw12, hu2⟩
                  refine ⟨u2, rfl, ?_⟩
                  have hs12' := hw12.size
                  have hd12 := hd11.below hw12
                  have hv12 := hv11.below hw12
                  refine wl_appSl tb_bytes tb_bytes rfl rfl rfl hu2.bytes hd12 (by omega) (by simp only [lim, List.length_append]; simp only [wTag, List.length_append] at hll; omega) (fun d2 w13 hd13 hg13 => ?_)
                  obtain ⟨hv13, hap13⟩ := hv12.apart hap11 hg13
                  have hs13 := hg13.grown.size
                  repeat first|(with_reducible first|apply wc_seq|apply wc_region|apply wl_nil|apply qk_thn|apply wc_block|apply wc_skip|apply wc_ret|apply wc_exit|apply qk_thn_ret|apply qk_in_ret|apply qk_in|apply qk_thn_exit|apply qk_in_exit|apply qk_round_ret|apply qk_round_exit)|((with_reducible apply ws);exact rfl;exact rfl)|((with_reducible apply wl_yes);exact rfl;exact rfl;exact rfl)|((with_reducible apply wl_no);exact rfl;exact rfl;exact rfl;exact rfl)|((with_reducible apply wl_noU);exact rfl;exact rfl;exact rfl)
                  refine wl_appSl tb_bytes tb_bytes rfl rfl rfl hv13.bytes hd13 (by omega) (by simp only [lim, List.length_append]; simp only [wTag, List.length_append] at hll; omega) (fun d3 w14 hd14 hg14 => ?_)
                  have hw2e : Below w2.heap.size w2 w14 :=
                    (((((hw29.trans (hw10.mono (by omega))).trans (hg11.below (by omega) hd10.ge)).trans (hw12.mono (by omega))).trans (hg13.below (by omega) hd12.ge)).trans (hg14.below (by omega) hd13.ge))
                  repeat first|(with_reducible first|apply wc_seq|apply wc_region|apply wl_nil|apply qk_thn|apply wc_block|apply wc_skip|apply wc_ret|apply wc_exit|apply qk_thn_ret|apply qk_in_ret|apply qk_in|apply qk_thn_exit|apply qk_in_exit|apply qk_round_ret|apply qk_round_exit)|((with_reducible apply ws);exact rfl;exact rfl)|((with_reducible apply wl_yes);exact rfl;exact rfl;exact rfl)|((with_reducible apply wl_no);exact rfl;exact rfl;exact rfl;exact rfl)|((with_reducible apply wl_noU);exact rfl;exact rfl;exact rfl)
                  refine wl_add rfl rfl rfl (r := ((l ++ [(k, wField ver true fs[i] (att t i))]).length : Int)) (by rw [IntKind.wrap_i64]; simp only [List.length_append, List.length_cons, List.length_nil]; omega) ?_
                  repeat first|(with_reducible first|apply wc_seq|apply wc_region|apply wl_nil|apply qk_thn|apply wc_block|apply wc_skip|apply wc_ret|apply wc_exit|apply qk_thn_ret|apply qk_in_ret|apply qk_in|apply qk_thn_exit|apply qk_in_exit|apply qk_round_ret|apply qk_round_exit)|((with_reducible apply ws);exact rfl;exact rfl)|((with_reducible apply wl_yes);exact rfl;exact rfl;exact rfl)|((with_reducible apply wl_no);exact rfl;exact rfl;exact rfl;exact rfl)|((with_reducible apply wl_noU);exact rfl;exact rfl;exact rfl)
                  refine wl_add rfl rfl rfl (r := ((i + 1 : Nat) : Int)) (by rw [IntKind.wrap_i64]; omega) ?_
                  repeat first|(with_reducible first|apply wc_seq|apply wc_region|apply wl_nil|apply qk_thn|apply wc_block|apply wc_skip|apply wc_ret|apply wc_exit|apply qk_thn_ret|apply qk_in_ret|apply qk_in|apply qk_thn_exit|apply qk_in_exit|apply qk_round_ret|apply qk_round_exit)|((with_reducible apply ws);exact rfl;exact rfl)|((with_reducible apply wl_yes);exact rfl;exact rfl;exact rfl)|((with_reducible apply wl_no);exact rfl;exact rfl;exact rfl;exact rfl)|((with_reducible apply wl_noU);exact rfl;exact rfl;exact rfl)
                  refine qk_round ⟨i + 1, d3, l ++ [(k, wField ver true fs[i] (att t i))]⟩ ⟨rfl, rfl, rfl, rfl, rfl, rfl, rfl, rfl, rfl, rfl, rfl, rfl, rfl, trivial⟩ ⟨by simp only []; omega, hw2e, ?_, ?_⟩ (by simp only []; omega)
                  · simp only [tagB_append, tagB_one, wTag]
                    simpa only [List.append_assoc] using hd14
                  · simp only []
                    rw [List.append_assoc]; exact hl
              · refine wc_no rfl rfl ?_
                rw [if_neg (by rw [hus]; simp)] at hdr
                rw [hdr] at hl
                repeat first|(with_reducible first|apply wc_seq|apply wc_region|apply wl_nil|apply qk_thn|apply wc_block|apply wc_skip|apply wc_ret|apply wc_exit|apply qk_thn_ret|apply qk_in_ret|apply qk_in|apply qk_thn_exit|apply qk_in_exit|apply qk_round_ret|apply qk_round_exit)|((with_reducible apply ws);exact rfl;exact rfl)|((with_reducible apply wl_yes);exact rfl;exact rfl;exact rfl)|((with_reducible apply wl_no);exact rfl;exact rfl;exact rfl;exact rfl)|((with_reducible apply wl_noU);exact rfl;exact rfl;exact rfl)
                refine wl_add rfl rfl rfl (r := ((i + 1 : Nat) : Int)) (by rw [IntKind.wrap_i64]; omega) ?_
                repeat first|(with_reducible first|apply wc_seq|apply wc_region|apply wl_nil|apply qk_thn|apply wc_block|apply wc_skip|apply wc_ret|apply wc_exit|apply qk_thn_ret|apply qk_in_ret|apply qk_in|apply qk_thn_exit|apply qk_in_exit|apply qk_round_ret|apply qk_round_exit)|((with_reducible apply ws);exact rfl;exact rfl)|((with_reducible apply wl_yes);exact rfl;exact rfl;exact rfl)|((with_reducible apply wl_no);exact rfl;exact rfl;exact rfl;exact rfl)|((with_reducible apply wl_noU);exact rfl;exact rfl;exact rfl)
                exact qk_round ⟨i + 1, d, l⟩ ⟨rfl, rfl, rfl, rfl, rfl, rfl, rfl, rfl, rfl, rfl, rfl, rfl, rfl, trivial⟩ ⟨by simp only []; omega, hw28, hd8, hl⟩ (by simp only []; omega)
        · have e1 : (fs[i].tag == (k : Int)) = false := by simpa using htk
          refine wc_par [(0, .pointer (some ⟨w5.heap.size, 0 + 4, none⟩)), (1, .int .i64 fs[i].tag), (2, .int .i64 (k : Int)), (3, .bool false), (4, .bool false), (5, undef), (6, undef), (7, undef), (8, undef), (9, undef), (10, undef), (11, .bool false)] []
            (fun vals w' => w' = w7.drew)
            mixed rfl rfl rfl rfl rfl (by show ([0,1,2,3,4,5,6,7,8,9,10,11] : List Nat).Nodup; decide) rfl rfl (by decide) rfl rfl rfl rfl rfl ?_ trivial ?_
          · intro p hp vals w' hC a k
            subst hC
            simp only [List.mem_cons, List.not_mem_nil, or_false] at hp
            rcases hp with rfl | rfl | rfl | rfl | rfl | rfl | rfl | rfl | rfl | rfl | rfl | rfl
            · exact gv rfl rfl (rn_fieldAddr k rfl fo_fld4)
            · exact gv rfl rfl (rn_load k rfl to_int (hb7.cell0 (i := 4) rfl))
            · exact gv rfl rfl (rn_move k rfl)
            · refine gv rfl rfl ?_
              rw [← e1]
              exact rn_eql k rfl rfl
            · exact gv rfl rfl (rn_move k rfl)
            iterate 6 (exact gv_no rfl rfl rfl k rfl rfl)
            · exact gv rfl rfl (rn_pick k rfl rfl)
          · rintro vals w8 hvl rfl
            refine qk_thn ?_
            refine wc_no rfl rfl ?_
            rw [if_neg (fun h => htk h.1)] at hdr
            rw [hdr] at hl
            repeat first|(with_reducible first|apply wc_seq|apply wc_region|apply wl_nil|apply qk_thn|apply wc_block|apply wc_skip|apply wc_ret|apply wc_exit|apply qk_thn_ret|apply qk_in_ret|apply qk_in|apply qk_thn_exit|apply qk_in_exit|apply qk_round_ret|apply qk_round_exit)|((with_reducible apply ws);exact rfl;exact rfl)|((with_reducible apply wl_yes);exact rfl;exact rfl;exact rfl)|((with_reducible apply wl_no);exact rfl;exact rfl;exact rfl;exact rfl)|((with_reducible apply wl_noU);exact rfl;exact rfl;exact rfl)
            refine wl_add rfl rfl rfl (r := ((i + 1 : Nat) : Int)) (by rw [IntKind.wrap_i64]; omega) ?_
            repeat first|(with_reducible first|apply wc_seq|apply wc_region|apply wl_nil|apply qk_thn|apply wc_block|apply wc_skip|apply wc_ret|apply wc_exit|apply qk_thn_ret|apply qk_in_ret|apply qk_in|apply qk_thn_exit|apply qk_in_exit|apply qk_round_ret|apply qk_round_exit)|((with_reducible apply ws);exact rfl;exact rfl)|((with_reducible apply wl_yes);exact rfl;exact rfl;exact rfl)|((with_reducible apply wl_no);exact rfl;exact rfl;exact rfl;exact rfl)|((with_reducible apply wl_noU);exact rfl;exact rfl;exact rfl)
            exact qk_round ⟨i + 1, d, l⟩ ⟨rfl, rfl, rfl, rfl, rfl, rfl, rfl, rfl, rfl, rfl, rfl, rfl, rfl, trivial⟩ ⟨by simp only []; omega, hw27.drew, hd7, hl⟩ (by simp only []; omega)
      · refine wc_no rfl (by simpa using hlt) ?_
        repeat first|(with_reducible first|apply wc_seq|apply wc_region|apply wl_nil|apply qk_thn|apply wc_block|apply wc_skip|apply wc_ret|apply wc_exit|apply qk_thn_ret|apply qk_in_ret|apply qk_in|apply qk_thn_exit|apply qk_in_exit|apply qk_round_ret|apply qk_round_exit)|((with_reducible apply ws);exact rfl;exact rfl)|((with_reducible apply wl_yes);exact rfl;exact rfl;exact rfl)|((with_reducible apply wl_no);exact rfl;exact rfl;exact rfl;exact rfl)|((with_reducible apply wl_noU);exact rfl;exact rfl;exact rfl)
        refine wl_add rfl rfl rfl (r := ((k + 1 : Nat) : Int)) (by rw [IntKind.wrap_i64]; omega) ?_
        repeat first|(with_reducible first|apply wc_seq|apply wc_region|apply wl_nil|apply qk_thn|apply wc_block|apply wc_skip|apply wc_ret|apply wc_exit|apply qk_thn_ret|apply qk_in_ret|apply qk_in|apply qk_thn_exit|apply qk_in_exit|apply qk_round_ret|apply qk_round_exit)|((with_reducible apply ws);exact rfl;exact rfl)|((with_reducible apply wl_yes);exact rfl;exact rfl;exact rfl)|((with_reducible apply wl_no);exact rfl;exact rfl;exact rfl;exact rfl)|((with_reducible apply wl_noU);exact rfl;exact rfl;exact rfl)
        refine qk_round ⟨k + 1, d, l⟩ ⟨rfl, rfl, rfl, rfl, rfl, rfl, rfl, rfl, rfl, trivial⟩ ⟨by simp only []; omega, hw5, hd5, ?_⟩ (by simp only []; omega)
        simp only []
        rw [below_succ, ← hl, List.drop_of_length_le (by omega)]
        simp [wTs]
    · refine wc_no rfl (by simpa using hkl) ?_
      repeat first|(with_reducible first|apply wc_seq|apply wc_region|apply wl_nil|apply qk_thn|apply wc_block|apply wc_skip|apply wc_ret|apply wc_exit|apply qk_thn_ret|apply qk_in_ret|apply qk_in|apply qk_thn_exit|apply qk_in_exit|apply qk_round_ret|apply qk_round_exit)|((with_reducible apply ws);exact rfl;exact rfl)|((with_reducible apply wl_yes);exact rfl;exact rfl;exact rfl)|((with_reducible apply wl_no);exact rfl;exact rfl;exact rfl;exact rfl)|((with_reducible apply wl_noU);exact rfl;exact rfl;exact rfl)
      have hke : k = known fs := by omega
      subst hke
      exact qk_cut ⟨0, d, l⟩ ⟨rfl, rfl, rfl, rfl, rfl, rfl, rfl, trivial⟩ ⟨hw4, hd4, hl⟩
  rintro ⟨_, d, l⟩ w3 ⟨hw3, hd3, hl⟩
  simp only [] at hd3 hl
  have hs23 := hw3.size
  have hw03 : Below w.heap.size w w3 := hw02.trans (hw3.mono (by omega))
  have hbx3 : Box w3 w.heap.size [.int .i64 t.n, sv2, .bool t.nul, lv, uv] 26 := hb1.below (hw2.trans (hw3.mono (by omega))) (by omega)
  have hll := tagB_len (below ver true fs t (known fs) ++ others fs t.u)
  rw [tagB_append, List.length_append, List.length_append] at hll
  refine wc_cut (α := PtT) (fun s => [(10, s.d), (11, .int .i64 ((allTags ver true fs t).length : Int)), (9, out)])
    (fun s w' => Below w2.heap.size w2 w' ∧ Own w' w2.heap.size 5 s.d (tagB (allTags ver true fs t))) ?_ ?_
  · repeat first|(with_reducible first|apply wc_seq|apply wc_region|apply wl_nil|apply qk_thn|apply wc_block|apply wc_skip|apply wc_ret|apply wc_exit|apply qk_thn_ret|apply qk_in_ret|apply qk_in|apply qk_thn_exit|apply qk_in_exit|apply qk_round_ret|apply qk_round_exit)|((with_reducible apply ws);exact rfl;exact rfl)|((with_reducible apply wl_yes);exact rfl;exact rfl;exact rfl)|((with_reducible apply wl_no);exact rfl;exact rfl;exact rfl;exact rfl)|((with_reducible apply wl_noU);exact rfl;exact rfl;exact rfl)
    refine wl_loadB rfl to_tags rfl hbx3 rfl ?_
    refine wl_call rfl (by kernel_rfl) rfl ((fn_unknownR _ _ fs t.u B w3 (by omega) (hf.below (hw03.mono hB) (Nat.le_refl _)) (hu.below (hw03.mono hB) (Nat.le_refl _)) (fsok.tag hfs) (by omega)).mono ?_)
    rintro e w4 ⟨v, rfl, hw4, qs, hrow, hsay, hat⟩
    refine ⟨_, rfl, ?_⟩
    have hs34 := hw4.size
    have hd4 := hd3.below hw4
    have hqn : qs.length ≤ 32767 := by have := unknown_len fs t.u; rw [← hsay] at this; simpa using this
    have hoth : others fs t.u = qs.map fun q => (q.1.1, whole q.1.2) := by simp only [others, ← hsay, List.map_map]; rfl
    have hkeys : ∀ q ∈ qs, q.1.1 < 4294967296 := by
      intro q hq
      have : q.1 ∈ unknown fs t.u := by rw [← hsay]; exact List.mem_map_of_mem hq
      exact hok.u _ (unknown_mem fs t.u _ this)
    obtain ⟨va, vc, rfl⟩ := Row.shape hrow
    have hvb := fun g hg => World.ownsRow.lt hrow g hg
    repeat first|(with_reducible first|apply wc_seq|apply wc_region|apply wl_nil|apply qk_thn|apply wc_block|apply wc_skip|apply wc_ret|apply wc_exit|apply qk_thn_ret|apply qk_in_ret|apply qk_in|apply qk_thn_exit|apply qk_in_exit|apply qk_round_ret|apply qk_round_exit)|((with_reducible apply ws);exact rfl;exact rfl)|((with_reducible apply wl_yes);exact rfl;exact rfl;exact rfl)|((with_reducible apply wl_no);exact rfl;exact rfl;exact rfl;exact rfl)|((with_reducible apply wl_noU);exact rfl;exact rfl;exact rfl)
    refine wc_loop (α := PtT) (fun s => [(102, .int .i64 (s.k : Int)), (101, .int .i64 (qs.length : Int)), (100, .slice va qs.length vc), (10, s.d), (11, .int .i64 (s.l.length : Int)), (9, out), (7, .pointer (some ⟨w.heap.size, 0, none⟩))])
      (fun s w' => s.k ≤ qs.length ∧ Below w2.heap.size w2 w' ∧ w4.heap.size ≤ w'.heap.size ∧ Own w' w2.heap.size 5 s.d (tagB s.l) ∧ s.l = below ver true fs t (known fs) ++ (qs.take s.k).map (fun q => (q.1.1, whole q.1.2)) ∧ w'.ownsRow w3.heap.size 56 2 (.slice va qs.length vc) qs.length (tcells qs) ∧ (∀ g, s.d.ownBlock = some g → g < w3.heap.size ∨ w4.heap.size ≤ g)) (fun s => qs.length - s.k) ⟨0, d, l⟩ ⟨rfl, rfl, rfl, rfl, rfl, rfl, rfl, trivial⟩ ⟨Nat.zero_le _, hw3.trans (hw4.mono hs23), Nat.le_refl _, hd4, by rw [hl]; simp, hrow, fun g hg => .inl (hd3.lt g hg)⟩ ?_
    rintro ⟨i, d, l⟩ w5 ⟨hi, hw5, hs45, hd5, hl, hrow5, hdb⟩
    simp only [] at hi hd5 hl hdb
    change WC _ _ _ _ [(102, .int .i64 (i : Int)), (101, .int .i64 (qs.length : Int)), (100, .slice va qs.length vc), (10, d), (11, .int .i64 (l.length : Int)), (9, out), (7, .pointer (some ⟨w.heap.size, 0, none⟩))] _
    have hs25 := hw5.size
    have hll5 : (tagB (below ver true fs t (known fs))).length + (tagB (others fs t.u)).length ≤ 140737488355328 := by simp only [lim] at hlimA; omega
    repeat first|(with_reducible first|apply wc_seq|apply wc_region|apply wl_nil|apply qk_thn|apply wc_block|apply wc_skip|apply wc_ret|apply wc_exit|apply qk_thn_ret|apply qk_in_ret|apply qk_in|apply qk_thn_exit|apply qk_in_exit|apply qk_round_ret|apply qk_round_exit)|((with_reducible apply ws);exact rfl;exact rfl)|((with_reducible apply wl_yes);exact rfl;exact rfl;exact rfl)|((with_reducible apply wl_no);exact rfl;exact rfl;exact rfl;exact rfl)|((with_reducible apply wl_noU);exact rfl;exact rfl;exact rfl)
    by_cases hlt : i < qs.length
    · refine wc_yes rfl (by simpa using hlt) ?_
      obtain ⟨g, cap, hde, hg1, hg2', hca⟩ := Row.cells hrow5 (by omega)
      simp only [Value.slice.injEq, true_and] at hde
      obtain ⟨rfl, rfl⟩ := hde
      have hcj := tcells_at hca hlt
      have hsq := hat qs[i] (List.getElem_mem hlt)
      have hone : (([.int .u32 (qs[i].1.1 : Nat), qs[i].2] : List Value).all fun v => v.oneCell') = true := by
        obtain ⟨a3, c3, h3, _⟩ := hsq.shape
        rw [h3]; rfl
      -- how long the tags are so far
      have hle : (tagB l).length + (wTag qs[i].1.1 (whole qs[i].1.2)).length ≤ 140737488355328 := by
        have h1 : (tagB (others fs t.u)).length ≥ (tagB ((qs.take (i + 1)).map fun q => (q.1.1, whole q.1.2))).length := by
          rw [hoth]
          have : qs.map (fun q => (q.1.1, whole q.1.2)) = (qs.take (i + 1)).map (fun q => (q.1.1, whole q.1.2)) ++ (qs.drop (i + 1)).map (fun q => (q.1.1, whole q.1.2)) := by rw [← List.map_append, List.take_append_drop]
          rw [this, tagB_append, List.length_append]; omega
        rw [List.take_succ_eq_append_getElem hlt, List.map_append, tagB_append, List.length_append] at h1
        simp only [List.map_cons, List.map_nil, tagB_one] at h1
        rw [hl, tagB_append, List.length_append]
        omega
      have hln := tagB_len l
      repeat first|(with_reducible first|apply wc_seq|apply wc_region|apply wl_nil|apply qk_thn|apply wc_block|apply wc_skip|apply wc_ret|apply wc_exit|apply qk_thn_ret|apply qk_in_ret|apply qk_in|apply qk_thn_exit|apply qk_in_exit|apply qk_round_ret|apply qk_round_exit)|((with_reducible apply ws);exact rfl;exact rfl)|((with_reducible apply wl_yes);exact rfl;exact rfl;exact rfl)|((with_reducible apply wl_no);exact rfl;exact rfl;exact rfl;exact rfl)|((with_reducible apply wl_noU);exact rfl;exact rfl;exact rfl)
      refine wl_indexAddr rfl rfl es_tags rfl hlt ?_
      refine wl_loadAgg (cs := [.int .u32 (qs[i].1.1 : Nat), qs[i].2]) rfl ta_tag rfl (fun j v e => hcj.cell e) ?_
      refine wl_alloc zv_tag rfl rfl (fun w6 hb6 hg6 hs6 => ?_)
      refine wl_storeBAgg (vs := [.int .u32 (qs[i].1.1 : Nat), qs[i].2]) rfl rfl rfl tz_tag hone hb6 rfl (fun w7 hb7 hg7 hs7 => ?_)
      have hw57 : Below w5.heap.size w5 w7 := (below_of hg6 (Nat.le_refl _) (by simp)).trans (below_of hg7 (by omega) (by intro k hk; simp at hk; omega))
      have hw27 : Below w2.heap.size w2 w7 := hw5.trans (hw57.mono hs25)
      have hd7 := hd5.below hw57
      have hs57 := hw57.size
      have hrow7 := Row.kept hrow5 (grown_of hw57) (fun g _ => by simp)
      have hsq7 : Sq B w7 qs[i].2 (qs[i].1.2.map byteD) := hsq.below ((Below.between hw3 hw27 (by omega)).mono (by omega)) (Nat.le_refl _)
      repeat first|(with_reducible first|apply wc_seq|apply wc_region|apply wl_nil|apply qk_thn|apply wc_block|apply wc_skip|apply wc_ret|apply wc_exit|apply qk_thn_ret|apply qk_in_ret|apply qk_in|apply qk_thn_exit|apply qk_in_exit|apply qk_round_ret|apply qk_round_exit)|((with_reducible apply ws);exact rfl;exact rfl)|((with_reducible apply wl_yes);exact rfl;exact rfl;exact rfl)|((with_reducible apply wl_no);exact rfl;exact rfl;exact rfl;exact rfl)|((with_reducible apply wl_noU);exact rfl;exact rfl;exact rfl)
      refine wl_loadB rfl to_bytes rfl hb7 rfl ?_
      refine wl_call rfl (by kernel_rfl) rfl ((fn_whole _ _ _ _ hsq7).mono ?_)
      rintro e w8 ⟨vb, rfl, _, rfl, hsb⟩
      refine ⟨vb, rfl, ?_⟩
      rw [whole_map] at hsb
      have hby := hsb
      obtain ⟨ba, bc, rfl, _⟩ := hsb.shape
      rw [List.length_map] at *
      repeat first|(with_reducible first|apply wc_seq|apply wc_region|apply wl_nil|apply qk_thn|apply wc_block|apply wc_skip|apply wc_ret|apply wc_exit|apply qk_thn_ret|apply qk_in_ret|apply qk_in|apply qk_thn_exit|apply qk_in_exit|apply qk_round_ret|apply qk_round_exit)|((with_reducible apply ws);exact rfl;exact rfl)|((with_reducible apply wl_yes);exact rfl;exact rfl;exact rfl)|((with_reducible apply wl_no);exact rfl;exact rfl;exact rfl;exact rfl)|((with_reducible apply wl_noU);exact rfl;exact rfl;exact rfl)
      refine wl_loadB rfl to_u32 rfl hb7 rfl ?_
      have hk32 := hkeys qs[i] (List.getElem_mem hlt)
      refine wl_conv .u64 rfl ti_u32 ti_u64 rfl (r := (qs[i].1.1 : Int)) (by rw [IntKind.wrap_u64]; omega) ?_
      refine wl_call rfl (by kernel_rfl) rfl ((fn_uvarint qs[i].1.1 (by omega) w8).mono ?_)
      rintro e w9 ⟨u1, rfl, hw9, hu1⟩
      refine ⟨u1, rfl, ?_⟩
      have hs89 := hw9.size
      have hd9 := hd7.below hw9
      have hrow9 := Row.kept hrow7 (grown_of hw9) (fun g _ => by simp)
      have hBw : ∀ w', Below w2.heap.size w8 w' → Sq B w' (.slice ba (whole qs[i].1.2).length bc) ((whole qs[i].1.2).map byteD) := fun w' h => hby.below (h.mono (by omega)) (Nat.le_refl _)
      have hwl : (whole qs[i].1.2).length ≤ 32767 := by simp [whole, Most]; omega
      simp only [wTag, List.length_append] at hle
      refine wl_appSl tb_bytes tb_bytes rfl rfl rfl hu1.bytes hd9 (by omega) (by simp only [lim]; omega) (fun d1 w10 hd10 hg10 => ?_)
      have hs10 := hg10.grown.size
      have hb89 : Below w2.heap.size w8 w9 := hw9.mono (by omega)
      have hb810 := hb89.trans (hg10.below (by omega) hd9.ge)
      have hrow10 := Row.kept hrow9 hg10.grown (fun g hg e => by have h1 := hvb g hg; have h2 := hdb g e; omega)
      have hdb10 : ∀ g, d1.ownBlock = some g → g < w3.heap.size ∨ w4.heap.size ≤ g := by
        intro g hg
        rcases hg10.fresh with h | h
        · exact hdb g (by rw [← h]; exact hg)
        · have := h g hg; right; omega
      repeat first|(with_reducible first|apply wc_seq|apply wc_region|apply wl_nil|apply qk_thn|apply wc_block|apply wc_skip|apply wc_ret|apply wc_exit|apply qk_thn_ret|apply qk_in_ret|apply qk_in|apply qk_thn_exit|apply qk_in_exit|apply qk_round_ret|apply qk_round_exit)|((with_reducible apply ws);exact rfl;exact rfl)|((with_reducible apply wl_yes);exact rfl;exact rfl;exact rfl)|((with_reducible apply wl_no);exact rfl;exact rfl;exact rfl;exact rfl)|((with_reducible apply wl_noU);exact rfl;exact rfl;exact rfl)
      refine wl_conv .u64 rfl ti_i64 ti_u64 rfl (r := ((whole qs[i].1.2).length : Int)) (by rw [IntKind.wrap_u64]; omega) ?_
      refine wl_call rfl (by kernel_rfl) rfl ((fn_uvarint (whole qs[i].1.2).length (by omega) w10).mono ?_)
      rintro e w11 ⟨u2, rfl, hw11, hu2⟩
      refine ⟨u2, rfl, ?_⟩
      have hs11 := hw11.size
      have hd11 := hd10.below hw11
      have hrow11 := Row.kept hrow10 (grown_of hw11) (fun g _ => by simp)
      have hb811 := hb810.trans (hw11.mono (by omega))
      refine wl_appSl tb_bytes tb_bytes rfl rfl rfl hu2.bytes hd11 (by omega) (by simp only [lim, List.length_append]; omega) (fun d2 w12 hd12 hg12 => ?_)
      have hs12' := hg12.grown.size
      have hb812 := hb811.trans (hg12.below (by omega) hd11.ge)
      have hrow12 := Row.kept hrow11 hg12.grown (fun g hg e => by have h1 := hvb g hg; have h2 := hdb10 g e; omega)
      have hdb12 : ∀ g, d2.ownBlock = some g → g < w3.heap.size ∨ w4.heap.size ≤ g := by
        intro g hg
        rcases hg12.fresh with h | h
        · exact hdb10 g (by rw [← h]; exact hg)
        · have := h g hg; right; omega
      repeat first|(with_reducible first|apply wc_seq|apply wc_region|apply wl_nil|apply qk_thn|apply wc_block|apply wc_skip|apply wc_ret|apply wc_exit|apply qk_thn_ret|apply qk_in_ret|apply qk_in|apply qk_thn_exit|apply qk_in_exit|apply qk_round_ret|apply qk_round_exit)|((with_reducible apply ws);exact rfl;exact rfl)|((with_reducible apply wl_yes);exact rfl;exact rfl;exact rfl)|((with_reducible apply wl_no);exact rfl;exact rfl;exact rfl;exact rfl)|((with_reducible apply wl_noU);exact rfl;exact rfl;exact rfl)
      refine wl_appSl tb_bytes tb_bytes rfl rfl rfl (hBw _ hb812).bytes hd12 (by omega) (by simp only [lim, List.length_append]; omega) (fun d3 w13 hd13 hg13 => ?_)
      have hs13 := hg13.grown.size
      have hb813 := hb812.trans (hg13.below (by omega) hd12.ge)
      have hrow13 := Row.kept hrow12 hg13.grown (fun g hg e => by have h1 := hvb g hg; have h2 := hdb12 g e; omega)
      have hdb13 : ∀ g, d3.ownBlock = some g → g < w3.heap.size ∨ w4.heap.size ≤ g := by
        intro g hg
        rcases hg13.fresh with h | h
        · exact hdb12 g (by rw [← h]; exact hg)
        · have := h g hg; right; omega
      repeat first|(with_reducible first|apply wc_seq|apply wc_region|apply wl_nil|apply qk_thn|apply wc_block|apply wc_skip|apply wc_ret|apply wc_exit|apply qk_thn_ret|apply qk_in_ret|apply qk_in|apply qk_thn_exit|apply qk_in_exit|apply qk_round_ret|apply qk_round_exit)|((with_reducible apply ws);exact rfl;exact rfl)|((with_reducible apply wl_yes);exact rfl;exact rfl;exact rfl)|((with_reducible apply wl_no);exact rfl;exact rfl;exact rfl;exact rfl)|((with_reducible apply wl_noU);exact rfl;exact rfl;exact rfl)
      refine wl_add rfl rfl rfl (r := ((l ++ [(qs[i].1.1, whole qs[i].1.2)]).length : Int)) (by rw [IntKind.wrap_i64]; simp only [List.length_append, List.length_cons, List.length_nil]; omega) ?_
      repeat first|(with_reducible first|apply wc_seq|apply wc_region|apply wl_nil|apply qk_thn|apply wc_block|apply wc_skip|apply wc_ret|apply wc_exit|apply qk_thn_ret|apply qk_in_ret|apply qk_in|apply qk_thn_exit|apply qk_in_exit|apply qk_round_ret|apply qk_round_exit)|((with_reducible apply ws);exact rfl;exact rfl)|((with_reducible apply wl_yes);exact rfl;exact rfl;exact rfl)|((with_reducible apply wl_no);exact rfl;exact rfl;exact rfl;exact rfl)|((with_reducible apply wl_noU);exact rfl;exact rfl;exact rfl)
      refine wl_add rfl rfl rfl (r := ((i + 1 : Nat) : Int)) (by rw [IntKind.wrap_i64]; omega) ?_
      repeat first|(with_reducible first|apply wc_seq|apply wc_region|apply wl_nil|apply qk_thn|apply wc_block|apply wc_skip|apply wc_ret|apply wc_exit|apply qk_thn_ret|apply qk_in_ret|apply qk_in|apply qk_thn_exit|apply qk_in_exit|apply qk_round_ret|apply qk_round_exit)|((with_reducible apply ws);exact rfl;exact rfl)|((with_reducible apply wl_yes);exact rfl;exact rfl;exact rfl)|((with_reducible apply wl_no);exact rfl;exact rfl;exact rfl;exact rfl)|((with_reducible apply wl_noU);exact rfl;exact rfl;exact rfl)
      refine qk_round ⟨i + 1, d3, l ++ [(qs[i].1.1, whole qs[i].1.2)]⟩ ⟨rfl, rfl, rfl, rfl, rfl, rfl, rfl, trivial⟩ ⟨by simp only []; omega, hw27.trans hb813, by omega, ?_, ?_, hrow13, hdb13⟩ (by simp only []; omega)
      · simp only [tagB_append, tagB_one, wTag]
        simpa only [List.append_assoc] using hd13
      · simp only []
        rw [hl, List.take_succ_eq_append_getElem hlt, List.map_append, List.append_assoc]; rfl
    · refine wc_no rfl (by simpa using hlt) ?_
      repeat first|(with_reducible first|apply wc_seq|apply wc_region|apply wl_nil|apply qk_thn|apply wc_block|apply wc_skip|apply wc_ret|apply wc_exit|apply qk_thn_ret|apply qk_in_ret|apply qk_in|apply qk_thn_exit|apply qk_in_exit|apply qk_round_ret|apply qk_round_exit)|((with_reducible apply ws);exact rfl;exact rfl)|((with_reducible apply wl_yes);exact rfl;exact rfl;exact rfl)|((with_reducible apply wl_no);exact rfl;exact rfl;exact rfl;exact rfl)|((with_reducible apply wl_noU);exact rfl;exact rfl;exact rfl)
      have hla : l = allTags ver true fs t := by
        rw [hl, List.take_of_length_le (by omega), allTags_eq, hoth]
      subst hla
      exact qk_cut ⟨0, d, []⟩ ⟨rfl, rfl, rfl, trivial⟩ ⟨hw5, hd5⟩
  rintro ⟨_, d, _⟩ w4 ⟨hw4, hd4⟩
  simp only [] at hd4
  have hs24 := hw4.size
  have ho4 := ho2.below hw4
  have hal : (allTags ver true fs t).length = (below ver true fs t (known fs)).length + (others fs t.u).length := by rw [allTags_eq, List.length_append]
  have htl : (tagB (allTags ver true fs t)).length = (tagB (below ver true fs t (known fs))).length + (tagB (others fs t.u)).length := by rw [allTags_eq, tagB_append, List.length_append]
  rw [← hal] at hlimA
  have hap := apart_of hd4.ge ho2.lt
  repeat first|(with_reducible first|apply wc_seq|apply wc_region|apply wl_nil|apply qk_thn|apply wc_block|apply wc_skip|apply wc_ret|apply wc_exit|apply qk_thn_ret|apply qk_in_ret|apply qk_in|apply qk_thn_exit|apply qk_in_exit|apply qk_round_ret|apply qk_round_exit)|((with_reducible apply ws);exact rfl;exact rfl)|((with_reducible apply wl_yes);exact rfl;exact rfl;exact rfl)|((with_reducible apply wl_no);exact rfl;exact rfl;exact rfl;exact rfl)|((with_reducible apply wl_noU);exact rfl;exact rfl;exact rfl)
  refine wl_conv .u64 rfl ti_i64 ti_u64 rfl (r := ((allTags ver true fs t).length : Int)) (by rw [IntKind.wrap_u64]; simp only [lim] at hlimA; omega) ?_
  refine wl_call rfl (by kernel_rfl) rfl ((fn_uvarint (allTags ver true fs t).length (by simp only [lim] at hlimA; omega) w4).mono ?_)
  rintro e w5 ⟨u1, rfl, hw5, hu1⟩
  refine ⟨u1, rfl, ?_⟩
  have hs5 := hw5.size
  have hd5 := hd4.below hw5
  have ho5 := ho4.below hw5
  refine wl_appSl tb_bytes tb_bytes rfl rfl rfl hu1.bytes ho5 (by omega) (by omega) (fun o1 w6 ho6 hg6 => ?_)
  obtain ⟨hd6, hap6⟩ := hd5.apart hap hg6
  have hs6 := hg6.grown.size
  obtain ⟨da, dc, rfl⟩ := hd6.shape
  repeat first|(with_reducible first|apply wc_seq|apply wc_region|apply wl_nil|apply qk_thn|apply wc_block|apply wc_skip|apply wc_ret|apply wc_exit|apply qk_thn_ret|apply qk_in_ret|apply qk_in|apply qk_thn_exit|apply qk_in_exit|apply qk_round_ret|apply qk_round_exit)|((with_reducible apply ws);exact rfl;exact rfl)|((with_reducible apply wl_yes);exact rfl;exact rfl;exact rfl)|((with_reducible apply wl_no);exact rfl;exact rfl;exact rfl;exact rfl)|((with_reducible apply wl_noU);exact rfl;exact rfl;exact rfl)
  refine wl_appSl tb_bytes tb_bytes rfl rfl rfl hd6.bytes ho6 (by omega) (by rw [List.length_append]; omega) (fun o2 w7 ho7 hg7 => ?_)
  have hs7 := hg7.grown.size
  repeat first|(with_reducible first|apply wc_seq|apply wc_region|apply wl_nil|apply qk_thn|apply wc_block|apply wc_skip|apply wc_ret|apply wc_exit|apply qk_thn_ret|apply qk_in_ret|apply qk_in|apply qk_thn_exit|apply qk_in_exit|apply qk_round_ret|apply qk_round_exit)|((with_reducible apply ws);exact rfl;exact rfl)|((with_reducible apply wl_yes);exact rfl;exact rfl;exact rfl)|((with_reducible apply wl_no);exact rfl;exact rfl;exact rfl;exact rfl)|((with_reducible apply wl_noU);exact rfl;exact rfl;exact rfl)
  refine qk_ret1 rfl rfl ⟨_, rfl, ((((hw02.trans (hw4.mono (by omega))).trans (hw5.mono (by omega))).trans (hg6.below (by omega) (fun g hg => by have := ho5.ge g hg; omega))).trans (hg7.below (by omega) (fun g hg => by have := ho6.ge g hg; omega))), ?_⟩
  rw [wPart_true, ← List.append_assoc]
  exact ho7.mono (by omega)
end
mutual
theorem field_ok : ∀ f : Fld, f.okb = true → FieldOK f ∧ UsualOK f
  | .mk kind fr upto nul tag df of sub, h => by
    have hs : fsok sub = true := fsok.sub h
    have ih := fields_ok sub (by simp only [fsok, Bool.and_eq_true] at hs; exact hs.1)
    have hp := part_of sub hs (fun f hf => (ih f hf).1) (fun f hf => (ih f hf).2)
    exact ⟨field_of _ (fun k => value_of k _ hp) hp, usual_of _ hs (fun g hg => (ih g hg).2)⟩
theorem fields_ok : ∀ fs : List Fld, Fld.oksb fs = true → ∀ f ∈ fs, FieldOK f ∧ UsualOK f
  | [], _, f, hf => by cases hf
  | g :: fs, h, f, hf => by
    simp only [Fld.oksb, Bool.and_eq_true] at h
    have hg := field_ok g h.1
    have hr := fields_ok fs h.2
    rcases List.mem_cons.1 hf with h0 | h1
    · rw [h0]; exact hg
    · exact hr f h1
end
theorem part_ok (fs : List Fld) (h : fsok fs = true) : PartOK fs := by
  have ih := fields_ok fs (by simp only [fsok, Bool.and_eq_true] at h; exact h.1)
  exact part_of fs h (fun f hf => (ih f hf).1) (fun f hf => (ih f hf).2)
end Go.Proofs.Ytaoecdeljfdmeaa
