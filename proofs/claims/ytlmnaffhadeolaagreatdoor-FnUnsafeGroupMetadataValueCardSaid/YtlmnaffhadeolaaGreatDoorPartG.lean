/- A part of the proof of FnUnsafeGroupMetadataValueCardSaid: what its texts prove stands at the head of each. Conditions: those that each theorem names. -/
import Derived.Test.YtlmnaffhadeolaaGreatDoorPartF
import Derived.Test.YtlmnaffhadeolaaGreatDoorPartA
import Derived.Test.YtlmnaffhadeolaaGreatDoorPartE
import Derived.Test.YtlmnaffhadeolaaGreatDoorPartC
import Derived.Laws.Small
import Derived.Test.YtlmnaffhadeolaaGreatDoorPartD
set_option linter.all false
namespace Go.Proofs.YtlmnaffhadeolaaGreatDoor
open Go Go.RowKit
theorem wFs_drop (ver : Int) (flex : Bool) (fs : List Fld) (t : Tree) {i : Nat} (hi : i < fs.length) : wFs ver flex (fs.drop i) i t =
    (if fs[i].tag < 0 ∧ fs[i].has ver = true then wField ver flex fs[i] (att t i) else []) ++ wFs ver flex (fs.drop (i + 1)) (i + 1) t := by
  rw [List.drop_eq_getElem_cons hi]
  simp only [wFs]
theorem wTs_drop (ver : Int) (flex : Bool) (fs : List Fld) (k : Nat) (t : Tree) {i : Nat} (hi : i < fs.length) : wTs ver flex (fs.drop i) i k t =
    (if fs[i].tag = (k : Int) ∧ usual fs[i] (att t i) = false then [(k, wField ver flex fs[i] (att t i))] else []) ++ wTs ver flex (fs.drop (i + 1)) (i + 1) k t := by
  rw [List.drop_eq_getElem_cons hi]
  simp only [wTs]
def tagB (l : List (Nat × List UInt8)) : List UInt8 := l.flatMap fun kv => wTag kv.1 kv.2
theorem tagB_append (a b : List (Nat × List UInt8)) : tagB (a ++ b) = tagB a ++ tagB b := by simp [tagB]
theorem tagB_one (k : Nat) (b : List UInt8) : tagB [(k, b)] = wTag k b := by simp [tagB]
theorem tagB_len (l : List (Nat × List UInt8)) : l.length ≤ (tagB l).length := by
  induction l with
  | nil => simp
  | cons a l ih =>
    have : tagB (a :: l) = wTag a.1 a.2 ++ tagB l := by simp [tagB]
    rw [this]
    have := uvar_pos a.1
    simp only [List.length_cons, List.length_append, wTag]; omega
theorem wTag_len (k : Nat) (b : List UInt8) : b.length ≤ (wTag k b).length := by simp [wTag]; omega
def below (ver : Int) (flex : Bool) (fs : List Fld) (t : Tree) (m : Nat) : List (Nat × List UInt8) := (List.range m).flatMap fun k => wTs ver flex fs 0 k t
theorem below_succ (ver : Int) (flex : Bool) (fs : List Fld) (t : Tree) (m : Nat) : below ver flex fs t (m + 1) = below ver flex fs t m ++ wTs ver flex fs 0 m t := by
  simp [below, List.range_succ]
theorem below_le (ver : Int) (flex : Bool) (fs : List Fld) (t : Tree) {m n : Nat} (h : m ≤ n) : (tagB (below ver flex fs t m)).length ≤ (tagB (below ver flex fs t n)).length := by
  induction n with
  | zero => have : m = 0 := by omega
            subst this; exact Nat.le_refl _
  | succ n ih =>
    by_cases h1 : m = n + 1
    · subst h1; exact Nat.le_refl _
    · have := ih (by omega)
      rw [below_succ, tagB_append, List.length_append]; omega
theorem allTags_eq (ver : Int) (flex : Bool) (fs : List Fld) (t : Tree) : allTags ver flex fs t = below ver flex fs t (known fs) ++ others fs t.u := rfl
theorem wPart_false (ver : Int) (fs : List Fld) (t : Tree) : wPart ver false fs t = wFs ver false fs 0 t := rfl
theorem wPart_true (ver : Int) (fs : List Fld) (t : Tree) : wPart ver true fs t = wFs ver true fs 0 t ++ (uvar (allTags ver true fs t).length ++ tagB (allTags ver true fs t)) := rfl
theorem putTag_mem (k : Nat) (v : List UInt8) (l : List (Nat × List UInt8)) : ∀ x ∈ putTag k v l, x = (k, v) ∨ x ∈ l := by
  induction l with
  | nil => intro x hx; simp [putTag] at hx; exact .inl hx
  | cons a l ih =>
    intro x hx
    simp only [putTag] at hx
    split at hx
    · rcases List.mem_cons.1 hx with rfl | h
      · exact .inr (by simp)
      · rcases ih x h with h | h
        · exact .inl h
        · exact .inr (by simp [h])
    · split at hx
      · exact .inr hx
      · rcases List.mem_cons.1 hx with rfl | h
        · exact .inl rfl
        · exact .inr h
theorem unknown_mem (fs : List Fld) (u : List (Nat × List UInt8)) : ∀ x ∈ unknown fs u, x ∈ u := by
  have : ∀ (l out : List (Nat × List UInt8)), ∀ x ∈ l.foldl (step (known fs)) out, x ∈ out ∨ x ∈ l := by
    intro l
    induction l with
    | nil => intro out x hx; exact .inl hx
    | cons a l ih =>
      intro out x hx
      rcases ih _ x hx with h | h
      · unfold step at h
        split at h
        · exact .inl h
        · rcases putTag_mem _ _ _ x h with rfl | h
          · exact .inr (by simp)
          · exact .inl h
      · exact .inr (by simp [h])
  intro x hx
  rcases this (u.take Most) [] x hx with h | h
  · cases h
  · exact List.mem_of_mem_take h
theorem unknown_len (fs : List Fld) (u : List (Nat × List UInt8)) : (unknown fs u).length ≤ 32767 := by
  have := step_fold_length (known fs) (u.take Most) []
  simp only [List.length_nil, List.length_take, Nat.zero_add] at this
  exact Nat.le_trans this (Nat.min_le_left _ _)
theorem apart_of {v d : Value} {n : Nat} (hv : ∀ g, v.ownBlock = some g → n ≤ g) (hd : ∀ g, d.ownBlock = some g → g < n) : v.ownBlock = none ∨ v.ownBlock ≠ d.ownBlock := by
  cases h : v.ownBlock with
  | none => exact .inl rfl
  | some g => exact .inr (fun e => by have h1 := hv g h; have h2 := hd g e.symm; omega)
theorem Own.apart {w w' : World} {B u8 : Nat} {v d d' : Value} {ys : List UInt8} (hv : Own w B u8 v ys) (hd : v.ownBlock = none ∨ v.ownBlock ≠ d.ownBlock) (hg : Grew w w' d d') : Own w' B u8 v ys ∧ (v.ownBlock = none ∨ v.ownBlock ≠ d'.ownBlock) := by
  refine ⟨hv.kept hg.grown hd, ?_⟩
  rcases hd with h | h
  · exact .inl h
  · rcases hg.fresh with hf | hf
    · exact .inr (by rw [hf]; exact h)
    · cases hvb : v.ownBlock with
      | none => exact .inl rfl
      | some g => exact .inr (fun e => by have h1 := hf g e.symm; have h2 := hv.lt g hvb; omega)
theorem does_pick {P : Program} {N : Nat} {L : Sl} {a : Act} {w : World} {d : Option Nat} {ty : TypeId} {pos : String} {aft : Array Edge} {g : Option (Nat × Bool)} {c x y : Operand} {b : Bool} {v : Value} {R : Value → World → Prop} (k : Kn N a L) (hc : ev L c = some (.bool b)) (hv : ev L (bif b then x else y) = some v) (h : R v w) : Does P ⟨d, .pick c x y, ty, pos, aft, g⟩ a w R := does_of (rn_pick k hc hv) h
theorem Below.between {n : Nat} {a b c : World} (h : Below n a b) (k : Below n a c) (hs : b.heap.size ≤ c.heap.size) : Below n b c :=
  ⟨k.os.trans h.os.symm, k.tape.trans h.tape.symm, k.output.trans h.output.symm, hs, fun i hi => (k.block i hi).trans (h.block i hi).symm⟩
structure PtS where
  i : Nat
  d : Value
  xs : List UInt8
structure PtT where
  k : Nat
  d : Value
  l : List (Nat × List UInt8)
section
set_option maxRecDepth 100000
theorem part_of (fs : List Fld) (hfs : fsok fs = true) (hF : ∀ f ∈ fs, FieldOK f) (hU : ∀ f ∈ fs, UsualOK f) : PartOK fs := by
  intro flex ver t B w fv ts hok hB hf ht hlim
  obtain ⟨sv2, lv, uv, rfl, hs, hl, hu⟩ := tree_cells ht
  obtain ⟨fa, fc, rfl, _⟩ := hf.shape
  have hn := fsok.len hfs
  rw [List.length_map] at *
  have hFs : (wFs ver flex fs 0 t).length ≤ lim := by
    cases flex
    · exact hlim
    · rw [wPart_true, List.length_append] at hlim; omega
  refine enter Tryz.func49 rfl Tryz.ntmps49 rfl ?_
  repeat (with_reducible first|apply wc_seq|apply wc_region)
  refine wl_box1 rfl rfl rfl (fun w1 hb1 hg1 hs1 => ?_)
  have hw1 : Below w.heap.size w w1 := below_of hg1 (Nat.le_refl _) (by simp)
  refine wl_assign rfl rfl (wl_nil (qk_thn ?_))
  refine wc_seq (wc_region ?_)
  repeat ((with_reducible apply ws);exact rfl;exact rfl)
  refine wl_nil (qk_thn (wc_seq (wc_region ?_)))
  repeat ((with_reducible apply ws);exact rfl;exact rfl)
  refine wl_nil (qk_thn ?_)
  refine wc_cut (α := PtS) (fun s => [(9, s.d), (10, .slice none 0 0), (11, .int .i64 0), (7, .pointer (some ⟨w.heap.size, 0, none⟩)), (2, .bool flex), (1, .int .i64 ver), (0, .slice fa fs.length fc)])
    (fun s w' => Below w1.heap.size w1 w' ∧ Own w' w1.heap.size 5 s.d (wFs ver flex fs 0 t)) ?_ ?_
  · repeat first|(with_reducible first|apply wc_seq|apply wc_region|apply wl_nil|apply qk_thn|apply wc_block)|((with_reducible apply ws);exact rfl;exact rfl)
    refine wc_loop (α := PtS) (fun s => [(23, .int .i64 (s.i : Int)), (22, .int .i64 (fs.length : Int)), (21, .slice fa fs.length fc), (9, s.d), (10, .slice none 0 0), (11, .int .i64 0), (7, .pointer (some ⟨w.heap.size, 0, none⟩)), (2, .bool flex), (1, .int .i64 ver), (0, .slice fa fs.length fc)])
      (fun s w' => s.i ≤ fs.length ∧ Below w1.heap.size w1 w' ∧ Own w' w1.heap.size 5 s.d s.xs ∧ s.xs ++ wFs ver flex (fs.drop s.i) s.i t = wFs ver flex fs 0 t) (fun s => fs.length - s.i) ⟨0, .slice none 0 0, []⟩ ⟨rfl, rfl, rfl, rfl, rfl, rfl, rfl, rfl, rfl, rfl, trivial⟩ ⟨Nat.zero_le _, Below.refl _ _, Own.nil _ _ _, rfl⟩ ?_
    rintro ⟨i, d, xs⟩ w2 ⟨hi, hw2, ho2, hx⟩
    simp only [] at hi ho2 hx
    change WC _ _ _ _ [(23, .int .i64 (i : Int)), (22, .int .i64 (fs.length : Int)), (21, .slice fa fs.length fc), (9, d), (10, .slice none 0 0), (11, .int .i64 0), (7, .pointer (some ⟨w.heap.size, 0, none⟩)), (2, .bool flex), (1, .int .i64 ver), (0, .slice fa fs.length fc)] _
    have hw02 : Below w.heap.size w w2 := hw1.trans (hw2.mono (by omega))
    repeat first|(with_reducible first|apply wc_seq|apply wc_region|apply wl_nil|apply qk_thn)|((with_reducible apply ws);exact rfl;exact rfl)
    by_cases hlt : i < fs.length
    · refine wc_yes rfl (by simpa using hlt) ?_
      obtain ⟨b, off, c', cs, hv, _, hcs, hlen, hr⟩ := (hf.below (hw02.mono hB) (Nat.le_refl _)).get (sz := 8) (i := i) (by intro d hd; obtain ⟨x, _, rfl⟩ := List.mem_map.1 hd; exact fldD_width x) (by simpa using hlt)
      simp only [Value.slice.injEq, List.length_map] at hv
      obtain ⟨rfl, _, rfl⟩ := hv
      simp only [List.getElem_map] at hr
      obtain ⟨hone, _⟩ := fld_one hr
      obtain ⟨sv, hce, _⟩ := fld_cells hr
      subst hce
      have hdr := wFs_drop ver flex fs t hlt
      repeat first|(with_reducible first|apply wc_seq|apply wc_region|apply qk_thn|apply wc_block|apply wc_skip)|((with_reducible apply ws);exact rfl;exact rfl)
      refine wl_indexAddr rfl rfl es_flds rfl hlt ?_
      refine wl_loadAgg (cs := [.int .i64 fs[i].kind, .int .i64 fs[i].fr, .int .i64 fs[i].upto, .int .i64 fs[i].nul, .int .i64 fs[i].tag, .int .i64 fs[i].df, .int .i64 fs[i].of, sv]) rfl ta_fld rfl (fun j v e => hcs.cell e) ?_
      refine wl_alloc zv_fld rfl rfl (fun w3 hb3 hg3 hs3 => ?_)
      repeat ((with_reducible apply ws);exact rfl;exact rfl)
      refine wl_storeBAgg (vs := [.int .i64 fs[i].kind, .int .i64 fs[i].fr, .int .i64 fs[i].upto, .int .i64 fs[i].nul, .int .i64 fs[i].tag, .int .i64 fs[i].df, .int .i64 fs[i].of, sv]) rfl rfl rfl tz_fld hone hb3 rfl (fun w4 hb4 hg4 hs4 => ?_)
      have hw24 : Below w2.heap.size w2 w4 := (below_of hg3 (Nat.le_refl _) (by simp)).trans (below_of hg4 (by omega) (by intro k hk; simp at hk; omega))
      have hs12 := hw2.size
      have hw14 : Below w1.heap.size w1 w4 := hw2.trans (hw24.mono hs12)
      have hw04 : Below w.heap.size w w4 := hw02.trans (hw24.mono (by omega))
      have ho4 := ho2.below hw24
      have hB4 : B ≤ w4.heap.size := by omega
      repeat first|(with_reducible first|apply wc_seq|apply wc_region|apply wl_nil|apply qk_thn)|((with_reducible apply ws);exact rfl;exact rfl)
      refine wl_loadB rfl to_int rfl hb4 rfl ?_
      repeat ((with_reducible apply ws);exact rfl;exact rfl)
      by_cases htag : fs[i].tag < 0
      · have e1 : decide (fs[i].tag < 0) = true := by simpa using htag
        rw [e1]
        repeat ((with_reducible apply wl_yes);exact rfl;exact rfl;exact rfl)
        refine wl_loadBAgg (cs := [.int .i64 fs[i].kind, .int .i64 fs[i].fr, .int .i64 fs[i].upto, .int .i64 fs[i].nul, .int .i64 fs[i].tag, .int .i64 fs[i].df, .int .i64 fs[i].of, sv]) rfl ta_fld rfl hb4 ?_
        repeat first|((with_reducible apply ws);exact rfl;exact rfl)|((with_reducible apply wl_yes);exact rfl;exact rfl;exact rfl)
        refine wl_call rfl (by kernel_rfl) rfl ((fn_has fs[i] ver B w4 hB4 _ (Rep.below hr (hw24.mono (by omega)) (Nat.le_refl _))).mono ?_)
        rintro e w5 ⟨v, rfl, hw5, rfl⟩
        refine ⟨_, rfl, ?_⟩
        have hb5 := hb4.below hw5 hb4.lt
        have hs45 := hw5.size
        have hw15 := hw14.trans (hw5.mono (by omega))
        have hw05 := hw04.trans (hw5.mono (by omega))
        have ho5 := ho4.below hw5
        repeat first|(with_reducible first|apply wl_nil|apply qk_thn)|((with_reducible apply ws);exact rfl;exact rfl)
        cases hh : fs[i].has ver
        · refine wc_no rfl rfl ?_
          repeat (with_reducible first|apply wc_region|apply qk_thn|apply wc_skip|apply qk_in)
          refine wl_add rfl rfl rfl (r := ((i + 1 : Nat) : Int)) (by rw [IntKind.wrap_i64]; omega) ?_
          repeat first|(with_reducible apply wl_nil)|((with_reducible apply ws);exact rfl;exact rfl)
          refine qk_round ⟨i + 1, d, xs⟩ ⟨rfl, rfl, rfl, rfl, rfl, rfl, rfl, rfl, rfl, rfl, trivial⟩ ⟨by simp only []; omega, hw15, ho5, ?_⟩ (by simp only []; omega)
          rw [hdr, if_neg (by rw [hh]; simp)] at hx
          exact hx
        · refine wc_yes rfl rfl ?_
          rw [hdr, if_pos ⟨htag, hh⟩] at hx
          have hxl := congrArg List.length hx
          simp only [List.length_append] at hxl
          skip
          have hw25 : Below w2.heap.size w2 w5 := hw24.trans (hw5.mono (by omega))
          refine wc_par [(0, d), (1, .agg ([.int .i64 fs[i].kind, .int .i64 fs[i].fr, .int .i64 fs[i].upto, .int .i64 fs[i].nul, .int .i64 fs[i].tag, .int .i64 fs[i].df, .int .i64 fs[i].of, sv] : List Value).toArray), (2, .int .i64 ver), (3, .bool flex), (4, .agg ([.int .i64 t.n, sv2, .bool t.nul, lv, uv] : List Value).toArray), (5, .int .i64 (i : Int))] [9, 8, 7, 6]
            (fun vals w' => Below w1.heap.size w1 w' ∧ Box w' w2.heap.size [.int .i64 fs[i].kind, .int .i64 fs[i].fr, .int .i64 fs[i].upto, .int .i64 fs[i].nul, .int .i64 fs[i].tag, .int .i64 fs[i].df, .int .i64 fs[i].of, sv] 55 ∧ match vals with
              | [] => Below w5.heap.size w5 w'
              | [v] => Below w5.heap.size w5 w' ∧ ∃ xs' : List Value, v = .agg xs'.toArray ∧ Rep (Lo B) w' (treeD (att t i)) xs'
              | [v, _] => Below w5.heap.size w5 w' ∧ Own w' w5.heap.size 5 v (wField ver flex fs[i] (att t i))
              | v :: _ => Own w' w1.heap.size 5 v (xs ++ wField ver flex fs[i] (att t i)))
            mixed rfl rfl rfl rfl rfl (by show ([0,1,2,3,4,5] : List Nat).Nodup; decide) rfl rfl (by decide) rfl rfl rfl rfl ⟨hw15.drew, hb5, (Below.refl _ w5).drew⟩ ?_ ⟨?_, ?_, ?_, ?_, trivial⟩ ?_
          · intro p hp vals w' hC a k
            simp only [List.mem_cons, List.not_mem_nil, or_false] at hp
            rcases hp with rfl | rfl | rfl | rfl | rfl | rfl
            · exact gv rfl rfl (rn_move k rfl)
            · exact gv rfl rfl (rn_loadBAgg k rfl ta_fld hC.2.1)
            · exact gv rfl rfl (rn_move k rfl)
            · exact gv rfl rfl (rn_move k rfl)
            · exact gv rfl rfl (rn_loadBAgg k rfl ta_tree (hb1.below hC.1 (by omega)))
            · exact gv rfl rfl (rn_move k rfl)
          · rintro vals w' hvl ⟨hb', hbx', hC⟩ a k
            match vals, hvl with
            | [v8, v7, v6], _ => exact ⟨_, rfl, does_assign k rfl ⟨hb', hbx', hC⟩⟩
          · rintro vals w' hvl ⟨hb', hbx', hC⟩ a k
            match vals, hvl with
            | [v7, v6], _ =>
              obtain ⟨hb5', ho7⟩ := hC
              have hod := ho5.below hb5'
              refine ⟨_, rfl, does_appSl k tb_bytes tb_bytes rfl rfl ho7.bytes hod (by have := hb'.size; omega) (by omega) (fun d' w'' ho'' hg'' => ⟨hb'.trans (hg''.below hb'.size hod.ge), hbx'.kept hg''.grown ?_, ho''⟩)⟩
              intro e
              have := ho2.lt _ e.symm
              omega
          · rintro vals w' hvl ⟨hb', hbx', hC⟩ a k
            match vals, hvl with
            | [v6], _ =>
              obtain ⟨hb5', xs', rfl, hxr⟩ := hC
              have hs5' := hb5'.size
              refine ⟨_, rfl, does_call k rfl (by kernel_rfl) ((hF fs[i] (List.getElem_mem hlt) flex ver (att t i) B w' _ _ (hok.at i) (by omega) (Rep.below hr ((hw25.trans (hb5'.mono (by omega))).mono (by omega)) (Nat.le_refl _)) hxr (by omega)).mono ?_)⟩
              rintro e w'' ⟨v, rfl, hb'', ho⟩
              exact ⟨_, rfl, hb'.trans (hb''.mono hb'.size), hbx'.below hb'' hbx'.lt, hb5'.trans (hb''.mono hs5'), ho.mono hs5'⟩
          · rintro vals w' hvl ⟨hb', hbx', hC⟩ a k
            match vals, hvl with
            | [], _ =>
              simp only [] at hC
              have hs5' := hC.size
              refine ⟨_, rfl, does_call k rfl (by kernel_rfl) ((fn_at t i B w' (by omega) _ (Rep.below ht ((hw05.trans (hC.mono (by omega))).mono hB) (Nat.le_refl _))).mono ?_)⟩
              rintro e w'' ⟨v, rfl, hb'', xs', rfl, hxr⟩
              exact ⟨_, rfl, hb'.trans (hb''.mono hb'.size), hbx'.below hb'' hbx'.lt, hC.trans (hb''.mono hs5'), xs', rfl, hxr⟩
          · rintro vals w' hvl ⟨hb', hbx', hC⟩
            match vals, hvl with
            | [v9, v8, v7, v6], _ =>
              refine qk_thn ?_
              repeat (with_reducible apply wc_region)
              refine wl_add rfl rfl rfl (r := ((i + 1 : Nat) : Int)) (by rw [IntKind.wrap_i64]; omega) ?_
              repeat first|(with_reducible apply wl_nil)|((with_reducible apply ws);exact rfl;exact rfl)
              refine qk_round ⟨i + 1, v9, xs ++ wField ver flex fs[i] (att t i)⟩ ⟨rfl, rfl, rfl, rfl, rfl, rfl, rfl, rfl, rfl, rfl, trivial⟩ ⟨by simp only []; omega, hb', hC, ?_⟩ (by simp only []; omega)
              rw [List.append_assoc]; exact hx
      · have e1 : decide (fs[i].tag < 0) = false := by simpa using htag
        rw [e1]
        repeat first|(with_reducible first|apply wl_nil|apply qk_thn)|((with_reducible apply ws);exact rfl;exact rfl)|((with_reducible apply wl_no);exact rfl;exact rfl;exact rfl;exact rfl)
        refine wc_no rfl rfl ?_
        repeat (with_reducible first|apply wc_region|apply qk_thn|apply wc_skip|apply qk_in)
        refine wl_add rfl rfl rfl (r := ((i + 1 : Nat) : Int)) (by rw [IntKind.wrap_i64]; omega) ?_
        repeat first|(with_reducible apply wl_nil)|((with_reducible apply ws);exact rfl;exact rfl)
        refine qk_round ⟨i + 1, d, xs⟩ ⟨rfl, rfl, rfl, rfl, rfl, rfl, rfl, rfl, rfl, rfl, trivial⟩ ⟨by simp only []; omega, hw14, ho4, ?_⟩ (by simp only []; omega)
        rw [hdr, if_neg (fun h => htag h.1)] at hx
        exact hx
    · refine wc_no rfl (by simpa using hlt) ?_
      repeat (with_reducible first|apply wc_exit|apply qk_thn_exit|apply qk_in_exit|apply qk_round_exit)
      refine qk_cut ⟨0, d, xs⟩ ⟨rfl, rfl, rfl, rfl, rfl, rfl, rfl, trivial⟩ ⟨hw2, ?_⟩
      rw [List.drop_of_length_le (by omega)] at hx
      simp only [wFs, List.append_nil] at hx
      rw [← hx]; exact ho2
  rintro ⟨_, out, _⟩ w2 ⟨hw2, ho2⟩
  simp only [] at ho2
  have hs12 := hw2.size
  have hw02 : Below w.heap.size w w2 := hw1.trans (hw2.mono (by omega))
  refine wc_seq (wc_seq (wc_region ?_))
  repeat ((with_reducible apply ws);exact rfl;exact rfl)
  refine wl_nil (qk_thn ?_)
  cases flex
  · refine wc_yes rfl rfl ?_
    repeat first|(with_reducible first|apply wc_seq|apply wc_region|apply wl_nil|apply qk_thn|apply wc_ret|apply qk_thn_ret)|((with_reducible apply ws);exact rfl;exact rfl)
    exact qk_ret1 rfl rfl ⟨_, rfl, hw02, by rw [wPart_false]; exact ho2.mono (by omega)⟩
  refine wc_no rfl rfl ?_
  refine wc_skip (qk_thn ?_)
  have hKn := known_le (fsok.tag hfs)
  have hlimA := hlim
  rw [wPart_true, allTags_eq] at hlimA
  simp only [List.length_append, tagB_append] at hlimA
  refine wc_cut (α := PtT) (fun s => [(10, s.d), (11, .int .i64 (s.l.length : Int)), (9, out), (7, .pointer (some ⟨w.heap.size, 0, none⟩)), (2, .bool true), (1, .int .i64 ver), (0, .slice fa fs.length fc)])
    (fun s w' => Below w2.heap.size w2 w' ∧ Own w' w2.heap.size 5 s.d (tagB s.l) ∧ s.l = below ver true fs t (known fs)) ?_ ?_
  · repeat first|(with_reducible first|apply wc_seq|apply wc_region)|((with_reducible apply ws);exact rfl;exact rfl)
    refine wl_call rfl (by kernel_rfl) rfl ((fn_known _ fs B w2 (by omega) (hf.below (hw02.mono hB) (Nat.le_refl _)) (fsok.tag hfs) (by omega)).mono ?_)
    rintro e w3 ⟨v, rfl, hw3, rfl⟩
    refine ⟨_, rfl, ?_⟩
    refine wl_conv .i64 rfl ti_u32 ti_i64 rfl (r := (known fs : Int)) (by rw [IntKind.wrap_i64]; omega) ?_
    repeat first|(with_reducible first|apply wl_nil|apply qk_thn|apply wc_block)|((with_reducible apply ws);exact rfl;exact rfl)
    refine wc_loop (α := PtT) (fun s => [(52, .int .i64 (s.k : Int)), (51, .int .i64 (known fs : Int)), (10, s.d), (11, .int .i64 (s.l.length : Int)), (9, out), (7, .pointer (some ⟨w.heap.size, 0, none⟩)), (2, .bool true), (1, .int .i64 ver), (0, .slice fa fs.length fc)])
      (fun s w' => s.k ≤ known fs ∧ Below w2.heap.size w2 w' ∧ Own w' w2.heap.size 5 s.d (tagB s.l) ∧ s.l = below ver true fs t s.k) (fun s => known fs - s.k) ⟨0, .slice none 0 0, []⟩ ⟨rfl, rfl, rfl, rfl, rfl, rfl, rfl, rfl, rfl, trivial⟩ ⟨Nat.zero_le _, hw3, Own.nil _ _ _, rfl⟩ ?_
    rintro ⟨k, d, l⟩ w4 ⟨hk, hw4, hd4, hl⟩
    simp only [] at hk hd4 hl
    change WC _ _ _ _ [(52, .int .i64 (k : Int)), (51, .int .i64 (known fs : Int)), (10, d), (11, .int .i64 (l.length : Int)), (9, out), (7, .pointer (some ⟨w.heap.size, 0, none⟩)), (2, .bool true), (1, .int .i64 ver), (0, .slice fa fs.length fc)] _
    repeat first|(with_reducible first|apply wc_seq|apply wc_region|apply wl_nil|apply qk_thn)|((with_reducible apply ws);exact rfl;exact rfl)
    by_cases hkl : k < known fs
    · refine wc_yes rfl (by simpa using hkl) ?_
      repeat first|(with_reducible first|apply wc_seq|apply wc_region|apply wl_nil|apply qk_thn|apply wc_block|apply wc_skip)|((with_reducible apply ws);exact rfl;exact rfl)
      have hbl := below_le ver true fs t (m := k + 1) (n := known fs) hkl
      rw [below_succ, tagB_append, List.length_append] at hbl
      refine wc_loop (α := PtT) (fun s => [(57, .int .i64 (s.k : Int)), (56, .int .i64 (fs.length : Int)), (55, .slice fa fs.length fc), (14, .int .i64 (k : Int)), (52, .int .i64 (k : Int)), (51, .int .i64 (known fs : Int)), (10, s.d), (11, .int .i64 (s.l.length : Int)), (9, out), (7, .pointer (some ⟨w.heap.size, 0, none⟩)), (2, .bool true), (1, .int .i64 ver), (0, .slice fa fs.length fc)])
        (fun s w' => s.k ≤ fs.length ∧ Below w2.heap.size w2 w' ∧ Own w' w2.heap.size 5 s.d (tagB s.l) ∧ s.l ++ wTs ver true (fs.drop s.k) s.k k t = below ver true fs t k ++ wTs ver true fs 0 k t) (fun s => fs.length - s.k) ⟨0, d, l⟩ ⟨rfl, rfl, rfl, rfl, rfl, rfl, rfl, rfl, rfl, rfl, rfl, rfl, rfl, trivial⟩ ⟨Nat.zero_le _, hw4, hd4, by rw [hl]; rfl⟩ ?_
      rintro ⟨i, d, l⟩ w5 ⟨hi, hw5, hd5, hl⟩
      simp only [] at hi hd5 hl
      change WC _ _ _ _ [(57, .int .i64 (i : Int)), (56, .int .i64 (fs.length : Int)), (55, .slice fa fs.length fc), (14, .int .i64 (k : Int)), (52, .int .i64 (k : Int)), (51, .int .i64 (known fs : Int)), (10, d), (11, .int .i64 (l.length : Int)), (9, out), (7, .pointer (some ⟨w.heap.size, 0, none⟩)), (2, .bool true), (1, .int .i64 ver), (0, .slice fa fs.length fc)] _
      have hs25 := hw5.size
      have hw05 : Below w.heap.size w w5 := hw02.trans (hw5.mono (by omega))
      have hll := congrArg (fun x => (tagB x).length) hl
      simp only [tagB_append, List.length_append] at hll
      have hln := tagB_len l
      simp only [lim] at hlimA
      repeat first|(with_reducible first|apply wc_seq|apply wc_region|apply wl_nil|apply qk_thn)|((with_reducible apply ws);exact rfl;exact rfl)
      by_cases hlt : i < fs.length
      · refine wc_yes rfl (by simpa using hlt) ?_
        obtain ⟨b, off, c', cs, hv, _, hcs, hlen, hr⟩ := (hf.below (hw05.mono hB) (Nat.le_refl _)).get (sz := 8) (i := i) (by intro d hd; obtain ⟨x, _, rfl⟩ := List.mem_map.1 hd; exact fldD_width x) (by simpa using hlt)
        simp only [Value.slice.injEq, List.length_map] at hv
        obtain ⟨rfl, _, rfl⟩ := hv
        simp only [List.getElem_map] at hr
        obtain ⟨hone, _⟩ := fld_one hr
        obtain ⟨sv, hce, _⟩ := fld_cells hr
        subst hce
        have hdr := wTs_drop ver true fs k t hlt
        repeat first|(with_reducible first|apply wc_seq|apply wc_region|apply qk_thn|apply wc_block|apply wc_skip)|((with_reducible apply ws);exact rfl;exact rfl)
        refine wl_indexAddr rfl rfl es_flds rfl hlt ?_
        refine wl_loadAgg (cs := [.int .i64 fs[i].kind, .int .i64 fs[i].fr, .int .i64 fs[i].upto, .int .i64 fs[i].nul, .int .i64 fs[i].tag, .int .i64 fs[i].df, .int .i64 fs[i].of, sv]) rfl ta_fld rfl (fun j v e => hcs.cell e) ?_
        refine wl_alloc zv_fld rfl rfl (fun w6 hb6 hg6 hs6 => ?_)
        repeat ((with_reducible apply ws);exact rfl;exact rfl)
        refine wl_storeBAgg (vs := [.int .i64 fs[i].kind, .int .i64 fs[i].fr, .int .i64 fs[i].upto, .int .i64 fs[i].nul, .int .i64 fs[i].tag, .int .i64 fs[i].df, .int .i64 fs[i].of, sv]) rfl rfl rfl tz_fld hone hb6 rfl (fun w7 hb7 hg7 hs7 => ?_)
        have hw57 : Below w5.heap.size w5 w7 := (below_of hg6 (Nat.le_refl _) (by simp)).trans (below_of hg7 (by omega) (by intro k hk; simp at hk; omega))
        have hw27 : Below w2.heap.size w2 w7 := hw5.trans (hw57.mono hs25)
        have hw07 : Below w.heap.size w w7 := hw02.trans (hw27.mono (by omega))
        have hd7 := hd5.below hw57
        have hs57 := hw57.size
        have hB7 : B ≤ w7.heap.size := by omega
        have htc : ∀ w', Below w7.heap.size w7 w' → Box w' w.heap.size [.int .i64 t.n, sv2, .bool t.nul, lv, uv] 26 := fun w' h => hb1.below (hw2.trans ((hw27.trans (h.mono (by omega))).mono (by omega))) (by omega)
        repeat (with_reducible first|apply wc_seq|apply wl_nil|apply qk_thn)
        have hrw : ∀ w', Below w7.heap.size w7 w' → Rep (Lo B) w' (fldD fs[i]) [.int .i64 fs[i].kind, .int .i64 fs[i].fr, .int .i64 fs[i].upto, .int .i64 fs[i].nul, .int .i64 fs[i].tag, .int .i64 fs[i].df, .int .i64 fs[i].of, sv] := fun w' h => Rep.below hr ((hw57.trans (h.mono hs57)).mono (by omega)) (Nat.le_refl _)
        have htw : ∀ w', Below w7.heap.size w7 w' → Rep (Lo B) w' (treeD t) [.int .i64 t.n, sv2, .bool t.nul, lv, uv] := fun w' h => Rep.below ht ((hw07.trans (h.mono (by omega))).mono hB) (Nat.le_refl _)
        by_cases htk : fs[i].tag = (k : Int)
        · have e1 : (fs[i].tag == (k : Int)) = true := by simpa using htk
          refine wc_par [(0, .pointer (some ⟨w5.heap.size, 0 + 4, none⟩)), (1, .int .i64 fs[i].tag), (2, .int .i64 (k : Int)), (3, .bool true), (4, .bool true), (5, .agg ([.int .i64 fs[i].kind, .int .i64 fs[i].fr, .int .i64 fs[i].upto, .int .i64 fs[i].nul, .int .i64 fs[i].tag, .int .i64 fs[i].df, .int .i64 fs[i].of, sv] : List Value).toArray), (6, .agg ([.int .i64 t.n, sv2, .bool t.nul, lv, uv] : List Value).toArray), (7, .int .i64 (i : Int))] [11, 10, 9, 8]
            (fun vals w' => Below w7.heap.size w7 w' ∧ match vals with
              | [] => True
              | [v] => ∃ xs' : List Value, v = .agg xs'.toArray ∧ Rep (Lo B) w' (treeD (att t i)) xs'
              | [v, _] => v = .bool (usual fs[i] (att t i))
              | v :: _ => v = .bool (!usual fs[i] (att t i)))
            mixed rfl rfl rfl rfl rfl (by show ([0,1,2,3,4,5,6,7] : List Nat).Nodup; decide) rfl rfl (by decide) rfl rfl rfl rfl ⟨(Below.refl _ w7).drew, trivial⟩ ?_ ⟨?_, ?_, ?_, ?_, trivial⟩ ?_
          · intro p hp vals w' hC a k
            simp only [List.mem_cons, List.not_mem_nil, or_false] at hp
            rcases hp with rfl | rfl | rfl | rfl | rfl | rfl | rfl | rfl
            · exact gv rfl rfl (rn_fieldAddr k rfl fo_fld4)
            · exact gv rfl rfl (rn_load k rfl to_int ((hb7.below hC.1 hb7.lt).cell0 (i := 4) rfl))
            · exact gv rfl rfl (rn_move k rfl)
            · refine gv rfl rfl ?_
              rw [← e1]
              exact rn_eql k rfl rfl
            · exact gv rfl rfl (rn_move k rfl)
            · exact gv_yes rfl rfl rfl k rfl rfl (rn_loadBAgg k rfl ta_fld (hb7.below hC.1 hb7.lt))
            · exact gv_yes rfl rfl rfl k rfl rfl (rn_loadBAgg k rfl ta_tree (htc _ hC.1))
            · exact gv_yes rfl rfl rfl k rfl rfl (rn_move k rfl)
          · rintro vals w' hvl ⟨hb', hC⟩ a k
            match vals, hvl with
            | [v10, v9, v8], _ =>
              simp only [] at hC
              subst hC
              exact ⟨_, rfl, does_pick k rfl rfl ⟨hb', rfl⟩⟩
          · rintro vals w' hvl ⟨hb', hC⟩ a k
            match vals, hvl with
            | [v9, v8], _ =>
              simp only [] at hC
              subst hC
              exact ⟨_, rfl, does_not k rfl ⟨hb', rfl⟩⟩
          · rintro vals w' hvl ⟨hb', hC⟩ a k
            match vals, hvl with
            | [v8], _ =>
              obtain ⟨xs', rfl, hxr⟩ := hC
              refine ⟨_, rfl, does_call k rfl (by kernel_rfl) ((hU fs[i] (List.getElem_mem hlt) (att t i) B w' _ _ (hok.at i) (by have := hb'.size; omega) (hrw _ hb') hxr).mono ?_)⟩
              rintro e w'' ⟨v, rfl, hb'', rfl⟩
              exact ⟨_, rfl, hb'.trans (hb''.mono hb'.size), rfl⟩
          · rintro vals w' hvl ⟨hb', hC⟩ a k
            match vals, hvl with
            | [], _ =>
              refine ⟨_, rfl, does_call k rfl (by kernel_rfl) ((fn_at t i B w' (by have := hb'.size; omega) _ (htw _ hb')).mono ?_)⟩
              rintro e w'' ⟨v, rfl, hb'', xs', rfl, hxr⟩
              exact ⟨_, rfl, hb'.trans (hb''.mono hb'.size), xs', rfl, hxr⟩
          · rintro vals w8 hvl ⟨hw78, hC⟩
            match vals, hvl with
            | [v11, v10, v9, v8], _ =>
              simp only [] at hC
              subst hC
              refine qk_thn ?_
              have hs78 := hw78.size
              have hd8 := hd7.below hw78
              have hw28 := hw27.trans (hw78.mono (by omega))
              cases hus : usual fs[i] (att t i)
              · refine wc_yes rfl rfl ?_
                rw [if_pos ⟨htk, hus⟩] at hdr
                rw [hdr] at hl hll
                simp only [tagB_append, tagB_one, List.length_append] at hll
                have hwl := wTag_len k (wField ver true fs[i] (att t i))
                refine wc_seq ?_
                refine wc_par [(0, .agg ([.int .i64 fs[i].kind, .int .i64 fs[i].fr, .int .i64 fs[i].upto, .int .i64 fs[i].nul, .int .i64 fs[i].tag, .int .i64 fs[i].df, .int .i64 fs[i].of, sv] : List Value).toArray), (1, .int .i64 ver), (2, .bool true), (3, .agg ([.int .i64 t.n, sv2, .bool t.nul, lv, uv] : List Value).toArray), (4, .int .i64 (i : Int))] [7, 6, 5]
                  (fun vals w' => Below w8.heap.size w8 w' ∧ match vals with
                    | [] => True
                    | [v] => ∃ xs' : List Value, v = .agg xs'.toArray ∧ Rep (Lo B) w' (treeD (att t i)) xs'
                    | v :: _ => Own w' w8.heap.size 5 v (wField ver true fs[i] (att t i)))
                  mixed rfl rfl rfl rfl rfl (by show ([0,1,2,3,4] : List Nat).Nodup; decide) rfl rfl (by decide) rfl rfl rfl rfl ⟨(Below.refl _ w8).drew, trivial⟩ ?_ ⟨?_, ?_, ?_, trivial⟩ ?_
                · intro p hp vals w' hC a k
                  have h7' := hw78.trans (hC.1.mono hs78)
                  simp only [List.mem_cons, List.not_mem_nil, or_false] at hp
                  rcases hp with rfl | rfl | rfl | rfl | rfl
                  · exact gv rfl rfl (rn_loadBAgg k rfl ta_fld (hb7.below h7' hb7.lt))
                  · exact gv rfl rfl (rn_move k rfl)
                  · exact gv rfl rfl (rn_move k rfl)
                  · exact gv rfl rfl (rn_loadBAgg k rfl ta_tree (htc _ h7'))
                  · exact gv rfl rfl (rn_move k rfl)
                · rintro vals w' hvl ⟨hb', hC⟩ a k
                  match vals, hvl with
                  | [v6, v5], _ => exact ⟨_, rfl, does_assign k rfl ⟨hb', hC⟩⟩
                · rintro vals w' hvl ⟨hb', hC⟩ a k
                  match vals, hvl with
                  | [v5], _ =>
                    obtain ⟨xs', rfl, hxr⟩ := hC
                    have h7' := hw78.trans (hb'.mono hs78)
                    refine ⟨_, rfl, does_call k rfl (by kernel_rfl) ((hF fs[i] (List.getElem_mem hlt) true ver (att t i) B w' _ _ (hok.at i) (by have := hb'.size; omega) (hrw _ h7') hxr (by simp only [lim]; omega)).mono ?_)⟩
                    rintro e w'' ⟨v, rfl, hb'', ho⟩
                    exact ⟨_, rfl, hb'.trans (hb''.mono hb'.size), ho.mono hb'.size⟩
                · rintro vals w' hvl ⟨hb', hC⟩ a k
                  match vals, hvl with
                  | [], _ =>
                    refine ⟨_, rfl, does_call k rfl (by kernel_rfl) ((fn_at t i B w' (by have := hb'.size; omega) _ (htw _ (hw78.trans (hb'.mono hs78)))).mono ?_)⟩
                    rintro e w'' ⟨v, rfl, hb'', xs', rfl, hxr⟩
                    exact ⟨_, rfl, hb'.trans (hb''.mono hb'.size), xs', rfl, hxr⟩
                rintro vals w9 hvl ⟨hw89, hC⟩
                match vals, hvl with
                | [v7, v6, v5], _ =>
                  refine qk_thn ?_
                  simp only [] at hC
                  have hs89 := hw89.size
                  have hd9 := hd8.below hw89
                  have hw29 := hw28.trans (hw89.mono (by omega))
                  have hap := apart_of hC.ge hd8.lt
                  obtain ⟨va, vc, rfl⟩ := hC.shape
                  repeat first|(with_reducible first|apply wc_seq|apply wc_region)|((with_reducible apply ws);exact rfl;exact rfl)
                  refine wl_conv .u64 rfl ti_i64 ti_u64 rfl (r := (k : Int)) (by rw [IntKind.wrap_u64]; omega) ?_
                  refine wl_call rfl (by kernel_rfl) rfl ((fn_uvarint k (by omega) w9).mono ?_)
                  rintro e w10 ⟨u1, rfl, hw10, hu1⟩
                  refine ⟨u1, rfl, ?_⟩
                  have hs10 := hw10.size
                  have hd10 := hd9.below hw10
                  have hv10 := Own.below hC hw10
                  refine wl_appSl tb_bytes tb_bytes rfl rfl rfl hu1.bytes hd10 (by omega) (by simp only [lim]; simp only [wTag, List.length_append] at hll; omega) (fun d1 w11 hd11 hg11 => ?_)
                  obtain ⟨hv11, hap11⟩ := hv10.apart hap hg11
                  have hs11 := hg11.grown.size
                  repeat ((with_reducible apply ws);exact rfl;exact rfl)
                  refine wl_conv .u64 rfl ti_i64 ti_u64 rfl (r := ((wField ver true fs[i] (att t i)).length : Int)) (by rw [IntKind.wrap_u64]; simp only [wTag, List.length_append] at hll; omega) ?_
                  refine wl_call rfl (by kernel_rfl) rfl ((fn_uvarint (wField ver true fs[i] (att t i)).length (by simp only [wTag, List.length_append] at hll; omega) w11).mono ?_)
                  rintro e w12 ⟨u2, rfl, hw12, hu2⟩
                  refine ⟨u2, rfl, ?_⟩
                  have hs12' := hw12.size
                  have hd12 := hd11.below hw12
                  have hv12 := hv11.below hw12
                  refine wl_appSl tb_bytes tb_bytes rfl rfl rfl hu2.bytes hd12 (by omega) (by simp only [lim, List.length_append]; simp only [wTag, List.length_append] at hll; omega) (fun d2 w13 hd13 hg13 => ?_)
                  obtain ⟨hv13, hap13⟩ := hv12.apart hap11 hg13
                  have hs13 := hg13.grown.size
                  repeat ((with_reducible apply ws);exact rfl;exact rfl)
                  refine wl_appSl tb_bytes tb_bytes rfl rfl rfl hv13.bytes hd13 (by omega) (by simp only [lim, List.length_append]; simp only [wTag, List.length_append] at hll; omega) (fun d3 w14 hd14 hg14 => ?_)
                  have hw2e : Below w2.heap.size w2 w14 :=
                    (((((hw29.trans (hw10.mono (by omega))).trans (hg11.below (by omega) hd10.ge)).trans (hw12.mono (by omega))).trans (hg13.below (by omega) hd12.ge)).trans (hg14.below (by omega) hd13.ge))
                  repeat first|(with_reducible first|apply wc_region|apply wl_nil|apply qk_thn)|((with_reducible apply ws);exact rfl;exact rfl)
                  refine wl_add rfl rfl rfl (r := ((l ++ [(k, wField ver true fs[i] (att t i))]).length : Int)) (by rw [IntKind.wrap_i64]; simp only [List.length_append, List.length_cons, List.length_nil]; omega) ?_
                  repeat first|(with_reducible first|apply wc_region|apply wl_nil|apply qk_thn|apply qk_in)|((with_reducible apply ws);exact rfl;exact rfl)
                  refine wl_add rfl rfl rfl (r := ((i + 1 : Nat) : Int)) (by rw [IntKind.wrap_i64]; omega) ?_
                  repeat first|(with_reducible apply wl_nil)|((with_reducible apply ws);exact rfl;exact rfl)
                  refine qk_round ⟨i + 1, d3, l ++ [(k, wField ver true fs[i] (att t i))]⟩ ⟨rfl, rfl, rfl, rfl, rfl, rfl, rfl, rfl, rfl, rfl, rfl, rfl, rfl, trivial⟩ ⟨by simp only []; omega, hw2e, ?_, ?_⟩ (by simp only []; omega)
                  · simp only [tagB_append, tagB_one, wTag]
                    simpa only [List.append_assoc] using hd14
                  · simp only []
                    rw [List.append_assoc]; exact hl
              · refine wc_no rfl rfl ?_
                rw [if_neg (by rw [hus]; simp)] at hdr
                rw [hdr] at hl
                repeat (with_reducible first|apply wc_region|apply qk_thn|apply wc_skip|apply qk_in)
                refine wl_add rfl rfl rfl (r := ((i + 1 : Nat) : Int)) (by rw [IntKind.wrap_i64]; omega) ?_
                repeat first|(with_reducible apply wl_nil)|((with_reducible apply ws);exact rfl;exact rfl)
                exact qk_round ⟨i + 1, d, l⟩ ⟨rfl, rfl, rfl, rfl, rfl, rfl, rfl, rfl, rfl, rfl, rfl, rfl, rfl, trivial⟩ ⟨by simp only []; omega, hw28, hd8, hl⟩ (by simp only []; omega)
        · have e1 : (fs[i].tag == (k : Int)) = false := by simpa using htk
          refine wc_par [(0, .pointer (some ⟨w5.heap.size, 0 + 4, none⟩)), (1, .int .i64 fs[i].tag), (2, .int .i64 (k : Int)), (3, .bool false), (4, .bool false), (5, undef), (6, undef), (7, undef), (8, undef), (9, undef), (10, undef), (11, .bool false)] []
            (fun vals w' => w' = w7.drew)
            mixed rfl rfl rfl rfl rfl (by show ([0,1,2,3,4,5,6,7,8,9,10,11] : List Nat).Nodup; decide) rfl rfl (by decide) rfl rfl rfl rfl rfl ?_ trivial ?_
          · intro p hp vals w' hC a k
            subst hC
            simp only [List.mem_cons, List.not_mem_nil, or_false] at hp
            rcases hp with rfl | rfl | rfl | rfl | rfl | rfl | rfl | rfl | rfl | rfl | rfl | rfl
            · exact gv rfl rfl (rn_fieldAddr k rfl fo_fld4)
            · exact gv rfl rfl (rn_load k rfl to_int (hb7.cell0 (i := 4) rfl))
            · exact gv rfl rfl (rn_move k rfl)
            · refine gv rfl rfl ?_
              rw [← e1]
              exact rn_eql k rfl rfl
            · exact gv rfl rfl (rn_move k rfl)
            iterate 6 (exact gv_no rfl rfl rfl k rfl rfl)
            · exact gv rfl rfl (rn_pick k rfl rfl)
          · rintro vals w8 hvl rfl
            refine qk_thn ?_
            refine wc_no rfl rfl ?_
            rw [if_neg (fun h => htk h.1)] at hdr
            rw [hdr] at hl
            repeat (with_reducible first|apply wc_region|apply qk_thn|apply wc_skip|apply qk_in)
            refine wl_add rfl rfl rfl (r := ((i + 1 : Nat) : Int)) (by rw [IntKind.wrap_i64]; omega) ?_
            repeat first|(with_reducible apply wl_nil)|((with_reducible apply ws);exact rfl;exact rfl)
            exact qk_round ⟨i + 1, d, l⟩ ⟨rfl, rfl, rfl, rfl, rfl, rfl, rfl, rfl, rfl, rfl, rfl, rfl, rfl, trivial⟩ ⟨by simp only []; omega, hw27.drew, hd7, hl⟩ (by simp only []; omega)
      · refine wc_no rfl (by simpa using hlt) ?_
        repeat (with_reducible first|apply wc_region|apply qk_thn|apply wc_exit|apply qk_in|apply qk_thn_exit|apply qk_in_exit|apply qk_round_exit)
        refine wl_add rfl rfl rfl (r := ((k + 1 : Nat) : Int)) (by rw [IntKind.wrap_i64]; omega) ?_
        repeat first|(with_reducible apply wl_nil)|((with_reducible apply ws);exact rfl;exact rfl)
        refine qk_round ⟨k + 1, d, l⟩ ⟨rfl, rfl, rfl, rfl, rfl, rfl, rfl, rfl, rfl, trivial⟩ ⟨by simp only []; omega, hw5, hd5, ?_⟩ (by simp only []; omega)
        simp only []
        rw [below_succ, ← hl, List.drop_of_length_le (by omega)]
        simp [wTs]
    · refine wc_no rfl (by simpa using hkl) ?_
      repeat (with_reducible first|apply wc_exit|apply qk_thn_exit|apply qk_in_exit|apply qk_round_exit)
      have hke : k = known fs := by omega
      subst hke
      exact qk_cut ⟨0, d, l⟩ ⟨rfl, rfl, rfl, rfl, rfl, rfl, rfl, trivial⟩ ⟨hw4, hd4, hl⟩
  rintro ⟨_, d, l⟩ w3 ⟨hw3, hd3, hl⟩
  simp only [] at hd3 hl
  have hs23 := hw3.size
  have hw03 : Below w.heap.size w w3 := hw02.trans (hw3.mono (by omega))
  have hbx3 : Box w3 w.heap.size [.int .i64 t.n, sv2, .bool t.nul, lv, uv] 26 := hb1.below (hw2.trans (hw3.mono (by omega))) (by omega)
  have hll := tagB_len (below ver true fs t (known fs) ++ others fs t.u)
  rw [tagB_append, List.length_append, List.length_append] at hll
  refine wc_cut (α := PtT) (fun s => [(10, s.d), (11, .int .i64 ((allTags ver true fs t).length : Int)), (9, out)])
    (fun s w' => Below w2.heap.size w2 w' ∧ Own w' w2.heap.size 5 s.d (tagB (allTags ver true fs t))) ?_ ?_
  · repeat first|(with_reducible first|apply wc_seq|apply wc_region)|((with_reducible apply ws);exact rfl;exact rfl)
    refine wl_loadB rfl to_tags rfl hbx3 rfl ?_
    refine wl_call rfl (by kernel_rfl) rfl ((fn_unknownR _ _ fs t.u B w3 (by omega) (hf.below (hw03.mono hB) (Nat.le_refl _)) (hu.below (hw03.mono hB) (Nat.le_refl _)) (fsok.tag hfs) (by omega)).mono ?_)
    rintro e w4 ⟨v, rfl, hw4, qs, hrow, hsay, hat⟩
    refine ⟨_, rfl, ?_⟩
    have hs34 := hw4.size
    have hd4 := hd3.below hw4
    have hqn : qs.length ≤ 32767 := by have := unknown_len fs t.u; rw [← hsay] at this; simpa using this
    have hoth : others fs t.u = qs.map fun q => (q.1.1, whole q.1.2) := by simp only [others, ← hsay, List.map_map]; rfl
    have hkeys : ∀ q ∈ qs, q.1.1 < 4294967296 := by
      intro q hq
      have : q.1 ∈ unknown fs t.u := by rw [← hsay]; exact List.mem_map_of_mem hq
      exact hok.u _ (unknown_mem fs t.u _ this)
    obtain ⟨va, vc, rfl⟩ := Row.shape hrow
    have hvb := fun g hg => World.ownsRow.lt hrow g hg
    repeat first|(with_reducible first|apply wl_nil|apply qk_thn|apply wc_block)|((with_reducible apply ws);exact rfl;exact rfl)
    refine wc_loop (α := PtT) (fun s => [(102, .int .i64 (s.k : Int)), (101, .int .i64 (qs.length : Int)), (100, .slice va qs.length vc), (10, s.d), (11, .int .i64 (s.l.length : Int)), (9, out), (7, .pointer (some ⟨w.heap.size, 0, none⟩))])
      (fun s w' => s.k ≤ qs.length ∧ Below w2.heap.size w2 w' ∧ w4.heap.size ≤ w'.heap.size ∧ Own w' w2.heap.size 5 s.d (tagB s.l) ∧ s.l = below ver true fs t (known fs) ++ (qs.take s.k).map (fun q => (q.1.1, whole q.1.2)) ∧ w'.ownsRow w3.heap.size 79 2 (.slice va qs.length vc) qs.length (tcells qs) ∧ (∀ g, s.d.ownBlock = some g → g < w3.heap.size ∨ w4.heap.size ≤ g)) (fun s => qs.length - s.k) ⟨0, d, l⟩ ⟨rfl, rfl, rfl, rfl, rfl, rfl, rfl, trivial⟩ ⟨Nat.zero_le _, hw3.trans (hw4.mono hs23), Nat.le_refl _, hd4, by rw [hl]; simp, hrow, fun g hg => .inl (hd3.lt g hg)⟩ ?_
    rintro ⟨i, d, l⟩ w5 ⟨hi, hw5, hs45, hd5, hl, hrow5, hdb⟩
    simp only [] at hi hd5 hl hdb
    change WC _ _ _ _ [(102, .int .i64 (i : Int)), (101, .int .i64 (qs.length : Int)), (100, .slice va qs.length vc), (10, d), (11, .int .i64 (l.length : Int)), (9, out), (7, .pointer (some ⟨w.heap.size, 0, none⟩))] _
    have hs25 := hw5.size
    have hll5 : (tagB (below ver true fs t (known fs))).length + (tagB (others fs t.u)).length ≤ 140737488355328 := by simp only [lim] at hlimA; omega
    repeat first|(with_reducible first|apply wc_seq|apply wc_region|apply wl_nil|apply qk_thn)|((with_reducible apply ws);exact rfl;exact rfl)
    by_cases hlt : i < qs.length
    · refine wc_yes rfl (by simpa using hlt) ?_
      obtain ⟨g, cap, hde, hg1, hg2', hca⟩ := Row.cells hrow5 (by omega)
      simp only [Value.slice.injEq, true_and] at hde
      obtain ⟨rfl, rfl⟩ := hde
      have hcj := tcells_at hca hlt
      have hsq := hat qs[i] (List.getElem_mem hlt)
      have hone : (([.int .u32 (qs[i].1.1 : Nat), qs[i].2] : List Value).all fun v => v.oneCell') = true := by
        obtain ⟨a3, c3, h3, _⟩ := hsq.shape
        rw [h3]; rfl
      have hle : (tagB l).length + (wTag qs[i].1.1 (whole qs[i].1.2)).length ≤ 140737488355328 := by
        have h1 : (tagB (others fs t.u)).length ≥ (tagB ((qs.take (i + 1)).map fun q => (q.1.1, whole q.1.2))).length := by
          rw [hoth]
          have : qs.map (fun q => (q.1.1, whole q.1.2)) = (qs.take (i + 1)).map (fun q => (q.1.1, whole q.1.2)) ++ (qs.drop (i + 1)).map (fun q => (q.1.1, whole q.1.2)) := by rw [← List.map_append, List.take_append_drop]
          rw [this, tagB_append, List.length_append]; omega
        rw [List.take_succ_eq_append_getElem hlt, List.map_append, tagB_append, List.length_append] at h1
        simp only [List.map_cons, List.map_nil, tagB_one] at h1
        rw [hl, tagB_append, List.length_append]
        omega
      have hln := tagB_len l
      repeat (with_reducible first|apply wc_seq|apply wc_region|apply qk_thn|apply wc_block|apply wc_skip)
      refine wl_indexAddr rfl rfl es_tags rfl hlt ?_
      refine wl_loadAgg (cs := [.int .u32 (qs[i].1.1 : Nat), qs[i].2]) rfl ta_tag rfl (fun j v e => hcj.cell e) ?_
      refine wl_alloc zv_tag rfl rfl (fun w6 hb6 hg6 hs6 => ?_)
      refine wl_storeBAgg (vs := [.int .u32 (qs[i].1.1 : Nat), qs[i].2]) rfl rfl rfl tz_tag hone hb6 rfl (fun w7 hb7 hg7 hs7 => ?_)
      have hw57 : Below w5.heap.size w5 w7 := (below_of hg6 (Nat.le_refl _) (by simp)).trans (below_of hg7 (by omega) (by intro k hk; simp at hk; omega))
      have hw27 : Below w2.heap.size w2 w7 := hw5.trans (hw57.mono hs25)
      have hd7 := hd5.below hw57
      have hs57 := hw57.size
      have hrow7 := Row.kept hrow5 (grown_of hw57) (fun g _ => by simp)
      have hsq7 : Sq B w7 qs[i].2 (qs[i].1.2.map byteD) := hsq.below ((Below.between hw3 hw27 (by omega)).mono (by omega)) (Nat.le_refl _)
      repeat first|(with_reducible first|apply wc_seq|apply wc_region|apply wl_nil|apply qk_thn)|((with_reducible apply ws);exact rfl;exact rfl)
      refine wl_loadB rfl to_bytes rfl hb7 rfl ?_
      refine wl_call rfl (by kernel_rfl) rfl ((fn_whole _ _ _ _ hsq7).mono ?_)
      rintro e w8 ⟨vb, rfl, _, rfl, hsb⟩
      refine ⟨vb, rfl, ?_⟩
      rw [whole_map] at hsb
      have hby := hsb
      obtain ⟨ba, bc, rfl, _⟩ := hsb.shape
      rw [List.length_map] at *
      repeat first|(with_reducible first|apply wc_seq|apply wc_region|apply wl_nil|apply qk_thn)|((with_reducible apply ws);exact rfl;exact rfl)
      refine wl_loadB rfl to_u32 rfl hb7 rfl ?_
      have hk32 := hkeys qs[i] (List.getElem_mem hlt)
      refine wl_conv .u64 rfl ti_u32 ti_u64 rfl (r := (qs[i].1.1 : Int)) (by rw [IntKind.wrap_u64]; omega) ?_
      refine wl_call rfl (by kernel_rfl) rfl ((fn_uvarint qs[i].1.1 (by omega) w8).mono ?_)
      rintro e w9 ⟨u1, rfl, hw9, hu1⟩
      refine ⟨u1, rfl, ?_⟩
      have hs89 := hw9.size
      have hd9 := hd7.below hw9
      have hrow9 := Row.kept hrow7 (grown_of hw9) (fun g _ => by simp)
      have hBw : ∀ w', Below w2.heap.size w8 w' → Sq B w' (.slice ba (whole qs[i].1.2).length bc) ((whole qs[i].1.2).map byteD) := fun w' h => hby.below (h.mono (by omega)) (Nat.le_refl _)
      have hwl : (whole qs[i].1.2).length ≤ 32767 := by simp [whole, Most]; omega
      simp only [wTag, List.length_append] at hle
      refine wl_appSl tb_bytes tb_bytes rfl rfl rfl hu1.bytes hd9 (by omega) (by simp only [lim]; omega) (fun d1 w10 hd10 hg10 => ?_)
      have hs10 := hg10.grown.size
      have hb89 : Below w2.heap.size w8 w9 := hw9.mono (by omega)
      have hb810 := hb89.trans (hg10.below (by omega) hd9.ge)
      have hrow10 := Row.kept hrow9 hg10.grown (fun g hg e => by have h1 := hvb g hg; have h2 := hdb g e; omega)
      have hdb10 : ∀ g, d1.ownBlock = some g → g < w3.heap.size ∨ w4.heap.size ≤ g := by
        intro g hg
        rcases hg10.fresh with h | h
        · exact hdb g (by rw [← h]; exact hg)
        · have := h g hg; right; omega
      repeat ((with_reducible apply ws);exact rfl;exact rfl)
      refine wl_conv .u64 rfl ti_i64 ti_u64 rfl (r := ((whole qs[i].1.2).length : Int)) (by rw [IntKind.wrap_u64]; omega) ?_
      refine wl_call rfl (by kernel_rfl) rfl ((fn_uvarint (whole qs[i].1.2).length (by omega) w10).mono ?_)
      rintro e w11 ⟨u2, rfl, hw11, hu2⟩
      refine ⟨u2, rfl, ?_⟩
      have hs11 := hw11.size
      have hd11 := hd10.below hw11
      have hrow11 := Row.kept hrow10 (grown_of hw11) (fun g _ => by simp)
      have hb811 := hb810.trans (hw11.mono (by omega))
      refine wl_appSl tb_bytes tb_bytes rfl rfl rfl hu2.bytes hd11 (by omega) (by simp only [lim, List.length_append]; omega) (fun d2 w12 hd12 hg12 => ?_)
      have hs12' := hg12.grown.size
      have hb812 := hb811.trans (hg12.below (by omega) hd11.ge)
      have hrow12 := Row.kept hrow11 hg12.grown (fun g hg e => by have h1 := hvb g hg; have h2 := hdb10 g e; omega)
      have hdb12 : ∀ g, d2.ownBlock = some g → g < w3.heap.size ∨ w4.heap.size ≤ g := by
        intro g hg
        rcases hg12.fresh with h | h
        · exact hdb10 g (by rw [← h]; exact hg)
        · have := h g hg; right; omega
      repeat ((with_reducible apply ws);exact rfl;exact rfl)
      refine wl_appSl tb_bytes tb_bytes rfl rfl rfl (hBw _ hb812).bytes hd12 (by omega) (by simp only [lim, List.length_append]; omega) (fun d3 w13 hd13 hg13 => ?_)
      have hs13 := hg13.grown.size
      have hb813 := hb812.trans (hg13.below (by omega) hd12.ge)
      have hrow13 := Row.kept hrow12 hg13.grown (fun g hg e => by have h1 := hvb g hg; have h2 := hdb12 g e; omega)
      have hdb13 : ∀ g, d3.ownBlock = some g → g < w3.heap.size ∨ w4.heap.size ≤ g := by
        intro g hg
        rcases hg13.fresh with h | h
        · exact hdb12 g (by rw [← h]; exact hg)
        · have := h g hg; right; omega
      repeat first|(with_reducible first|apply wc_region|apply wl_nil|apply qk_thn)|((with_reducible apply ws);exact rfl;exact rfl)
      refine wl_add rfl rfl rfl (r := ((l ++ [(qs[i].1.1, whole qs[i].1.2)]).length : Int)) (by rw [IntKind.wrap_i64]; simp only [List.length_append, List.length_cons, List.length_nil]; omega) ?_
      repeat first|(with_reducible first|apply wc_region|apply wl_nil|apply qk_thn|apply qk_in)|((with_reducible apply ws);exact rfl;exact rfl)
      refine wl_add rfl rfl rfl (r := ((i + 1 : Nat) : Int)) (by rw [IntKind.wrap_i64]; omega) ?_
      repeat first|(with_reducible apply wl_nil)|((with_reducible apply ws);exact rfl;exact rfl)
      refine qk_round ⟨i + 1, d3, l ++ [(qs[i].1.1, whole qs[i].1.2)]⟩ ⟨rfl, rfl, rfl, rfl, rfl, rfl, rfl, trivial⟩ ⟨by simp only []; omega, hw27.trans hb813, by omega, ?_, ?_, hrow13, hdb13⟩ (by simp only []; omega)
      · simp only [tagB_append, tagB_one, wTag]
        simpa only [List.append_assoc] using hd13
      · simp only []
        rw [hl, List.take_succ_eq_append_getElem hlt, List.map_append, List.append_assoc]; rfl
    · refine wc_no rfl (by simpa using hlt) ?_
      repeat (with_reducible first|apply wc_exit|apply qk_thn_exit|apply qk_in_exit|apply qk_round_exit)
      have hla : l = allTags ver true fs t := by
        rw [hl, List.take_of_length_le (by omega), allTags_eq, hoth]
      subst hla
      exact qk_cut ⟨0, d, []⟩ ⟨rfl, rfl, rfl, trivial⟩ ⟨hw5, hd5⟩
  rintro ⟨_, d, _⟩ w4 ⟨hw4, hd4⟩
  simp only [] at hd4
  have hs24 := hw4.size
  have ho4 := ho2.below hw4
  have hal : (allTags ver true fs t).length = (below ver true fs t (known fs)).length + (others fs t.u).length := by rw [allTags_eq, List.length_append]
  have htl : (tagB (allTags ver true fs t)).length = (tagB (below ver true fs t (known fs))).length + (tagB (others fs t.u)).length := by rw [allTags_eq, tagB_append, List.length_append]
  rw [← hal] at hlimA
  have hap := apart_of hd4.ge ho2.lt
  repeat first|(with_reducible first|apply wc_seq|apply wc_region)|((with_reducible apply ws);exact rfl;exact rfl)
  refine wl_conv .u64 rfl ti_i64 ti_u64 rfl (r := ((allTags ver true fs t).length : Int)) (by rw [IntKind.wrap_u64]; simp only [lim] at hlimA; omega) ?_
  refine wl_call rfl (by kernel_rfl) rfl ((fn_uvarint (allTags ver true fs t).length (by simp only [lim] at hlimA; omega) w4).mono ?_)
  rintro e w5 ⟨u1, rfl, hw5, hu1⟩
  refine ⟨u1, rfl, ?_⟩
  have hs5 := hw5.size
  have hd5 := hd4.below hw5
  have ho5 := ho4.below hw5
  refine wl_appSl tb_bytes tb_bytes rfl rfl rfl hu1.bytes ho5 (by omega) (by omega) (fun o1 w6 ho6 hg6 => ?_)
  obtain ⟨hd6, hap6⟩ := hd5.apart hap hg6
  have hs6 := hg6.grown.size
  obtain ⟨da, dc, rfl⟩ := hd6.shape
  repeat ((with_reducible apply ws);exact rfl;exact rfl)
  refine wl_appSl tb_bytes tb_bytes rfl rfl rfl hd6.bytes ho6 (by omega) (by rw [List.length_append]; omega) (fun o2 w7 ho7 hg7 => ?_)
  have hs7 := hg7.grown.size
  repeat first|(with_reducible first|apply wl_nil|apply qk_thn|apply wc_ret)|((with_reducible apply ws);exact rfl;exact rfl)
  refine qk_ret1 rfl rfl ⟨_, rfl, ((((hw02.trans (hw4.mono (by omega))).trans (hw5.mono (by omega))).trans (hg6.below (by omega) (fun g hg => by have := ho5.ge g hg; omega))).trans (hg7.below (by omega) (fun g hg => by have := ho6.ge g hg; omega))), ?_⟩
  rw [wPart_true, ← List.append_assoc]
  exact ho7.mono (by omega)
end
mutual
theorem field_ok : ∀ f : Fld, f.okb = true → FieldOK f ∧ UsualOK f
  | .mk kind fr upto nul tag df of sub, h => by
    have hs : fsok sub = true := fsok.sub h
    have ih := fields_ok sub (by simp only [fsok, Bool.and_eq_true] at hs; exact hs.1)
    have hp := part_of sub hs (fun f hf => (ih f hf).1) (fun f hf => (ih f hf).2)
    exact ⟨field_of _ (fun k => value_of k _ hp) hp, usual_of _ hs (fun g hg => (ih g hg).2)⟩
theorem fields_ok : ∀ fs : List Fld, Fld.oksb fs = true → ∀ f ∈ fs, FieldOK f ∧ UsualOK f
  | [], _, f, hf => by cases hf
  | g :: fs, h, f, hf => by
    simp only [Fld.oksb, Bool.and_eq_true] at h
    have hg := field_ok g h.1
    have hr := fields_ok fs h.2
    rcases List.mem_cons.1 hf with h0 | h1
    · rw [h0]; exact hg
    · exact hr f h1
end
theorem part_ok (fs : List Fld) (h : fsok fs = true) : PartOK fs := by
  have ih := fields_ok fs (by simp only [fsok, Bool.and_eq_true] at h; exact h.1)
  exact part_of fs h (fun f hf => (ih f hf).1) (fun f hf => (ih f hf).2)
end Go.Proofs.YtlmnaffhadeolaaGreatDoor

namespace Go.Proofs.YtlmnaffhadeolaaGreatDoor
open Go Go.RowKit
theorem rt_tags : rowTy Tryz.prog 24 79 2 = true := by kernel_rfl
theorem tree_out {ok : Nat → Prop} {w : World} {t : Tree} {cs : List Value} (h : Rep ok w (treeD t) cs) :
  ∃ sv lv uv, cs = [.int .i64 t.n, sv, .bool t.nul, lv, uv] ∧ Rep ok w (.sq (t.s.map byteD)) [sv] ∧ Rep ok w (.sq (t.l.map treeD)) [lv] ∧ Rep ok w (.sq (t.u.map tagD)) [uv] := by
 cases t with
 | mk n s nul l u =>
  simp only [treeD, bytesD, Rep, Reps, treeDs_map] at h
  obtain ⟨c1, r1, rfl, rfl, c2, r2, rfl, h2, c3, r3, rfl, rfl, c4, r4, rfl, h4, c5, r5, rfl, h5, rfl⟩ := h
  obtain ⟨a2, b2, rfl, h2'⟩ := h2
  obtain ⟨a4, b4, rfl, h4'⟩ := h4
  obtain ⟨a5, b5, rfl, h5'⟩ := h5
  refine ⟨_, _, _, rfl, ?_, ?_, ?_⟩ <;> simp only [Rep]
  ·exact ⟨_, _, rfl, h2'⟩
  ·exact ⟨_, _, rfl, h4'⟩
  ·exact ⟨_, _, rfl, h5'⟩
theorem sq_one {ok : Nat → Prop} {w : World} {ds : List D} {v : Value} (h : Rep ok w (.sq ds) [v]) : ∃ a c, v = .slice a ds.length c := by
 simp only [Rep] at h
 obtain ⟨a, c, e, _⟩ := h
 exact ⟨a, c, by simpa using e⟩
theorem treeG_one {ok : Nat → Prop} {w : World} {t : Tree} {cs : List Value} (h : Rep ok w (treeD t) cs) : (cs.all fun v => v.oneCell') = true ∧ cs.length = 5 := by
 obtain ⟨sv, lv, uv, rfl, h1, h2, h3⟩ := tree_out h
 obtain ⟨a, b, rfl⟩ := sq_one h1
 obtain ⟨c, d, rfl⟩ := sq_one h2
 obtain ⟨e, f, rfl⟩ := sq_one h3
 exact ⟨rfl, rfl⟩
theorem RowD.sqb {B lo bx e sz : Nat} {w : World} {d : Value} {ds : List D} (h : RowD B lo bx e sz w d ds) : Rep (fun r => In B lo w r ∧ r ≠ bx) w (.sq ds) [d] := by
 obtain ⟨ha, hl, xs, hr, hx⟩ := h
 simp only [Rep]
 have hx' : Reps (fun r => In B lo w r ∧ r ≠ bx) w ds xs := hx.up (fun _ hr => ⟨⟨hr.1, hr.2.1⟩, hr.2.2.1⟩) (fun _ _ => rfl)
 by_cases hn : 0 < ds.length
 ·obtain ⟨g, cap, hd, hg1, hg2, hc⟩ := Row.cells hr hn
  subst hd
  obtain ⟨_, ⟨he, _⟩ | ⟨g', cap', cur, he, _, _, hle, _⟩⟩ := hr
  ·cases he
  ·cases he
   exact ⟨_, cap, rfl, hle, .inr ⟨g, 0, xs, rfl, ⟨⟨.inr hg1, hg2⟩, fun e => ha (by rw [← e]; rfl)⟩, hc, hx'⟩⟩
 ·have h0 : ds = [] := List.length_eq_zero_iff.1 (by omega)
  subst h0
  obtain ⟨hxl, ⟨rfl, _⟩ | ⟨g, cap, cur, rfl, hBg, hheap, hle, hcap, hcs, htake⟩⟩ := hr
  ·exact ⟨none, 0, rfl, Nat.le_refl _, .inl (by simp)⟩
  ·have hx0 : xs = [] := List.length_eq_zero_iff.1 (by simpa using hxl)
   subst hx0
   exact ⟨some ⟨g, 0, none⟩, cap, rfl, hle, .inr ⟨g, 0, [], rfl, ⟨⟨.inr hBg, (Array.getElem?_eq_some_iff.1 hheap).1⟩, fun e => ha (by rw [← e]; rfl)⟩, ⟨cur, e, (0, 0), hheap, by simp, by simp⟩, hx'⟩⟩
theorem grown_but {a b c : World} {bx : Nat} {row : Option Nat} (h : a.grownBy b (some bx)) (k : b.grownBy c row) (hr : ∀ g, row = some g → g = bx ∨ a.heap.size ≤ g) : a.grownBy c (some bx) :=
 ⟨k.os.trans h.os, k.tape.trans h.tape, k.output.trans h.output, Nat.le_trans h.size k.size, fun i hi hne => by
  rw [← h.block i hi hne]
  refine k.block i (Nat.lt_of_lt_of_le hi h.size) (fun e => ?_)
  rcases hr i e.symm with rfl | h2
  ·exact hne rfl
  ·omega⟩
theorem Rep.offLo {B lo bx : Nat} {w : World} {d : Value} {x : D} {cs : List Value} (h : Rep (Lo B) w x cs) (hs : B ≤ w.heap.size) (hb : B ≤ bx) (hd : ∀ g, d.ownBlock = some g → B ≤ g) : Rep (Off B lo bx d w) w x cs := by
 refine h.up (fun r hr => ⟨.inl hr, Nat.lt_of_lt_of_le hr hs, fun e => ?_, fun e => ?_⟩) (fun _ _ => rfl)
 ·simp only [Lo] at hr; omega
 ·have := hd r e; simp only [Lo] at hr; omega
theorem In.up {B lo lo' : Nat} {w w' : World} (hlo : lo' ≤ lo) (hs : w.heap.size ≤ w'.heap.size) : ∀ r, In B lo w r → In B lo' w' r :=
 fun _ h => ⟨h.1.elim .inl (fun x => .inr (Nat.le_trans hlo x)), Nat.lt_of_lt_of_le h.2 hs⟩
section
set_option maxRecDepth 100000
end
end Go.Proofs.YtlmnaffhadeolaaGreatDoor

namespace Go.Proofs.YtlmnaffhadeolaaGreatDoor
open Go Go.RowKit
def Fld.one : Fld → Fld | .mk _ fr upto _ _ df of sub => .mk of fr upto (-1) (-1) df of sub
section
set_option maxRecDepth 100000
end
end Go.Proofs.YtlmnaffhadeolaaGreatDoor

namespace Go.Proofs.YtlmnaffhadeolaaGreatDoor.Impl
open Go Go.RowKit
def tbl : Tbl := ⟨[(26, 0, 0), (26, 1, 1), (26, 2, 2), (26, 3, 3), (26, 4, 4), (79, 0, 0), (79, 1, 1), (35, 0, 0), (35, 1, 1), (35, 2, 2), (35, 3, 3), (35, 4, 4), (81, 0, 0), (81, 1, 1)],
 [22, 23, 24, 32, 33]⟩
theorem tbl_ok : tbl.ok Tryz.prog = true := by kernel_rfl
theorem ws {ops : Array Oper} {Q : Exit → Act → World → Prop} {N : Nat} {rest : List Oper} {L : Sl} {w : World} {d : Nat} {ty : TypeId} {pos : String} {aft : Array Edge} {o : Op} {v : Value}
  (hs : stepOp tbl L o = some v) (hd : Nat.blt d N = true) (h : WL rest Tryz.prog ops Q N ((d, v) :: L) w) : WL (⟨some d, o, ty, pos, aft, none⟩ :: rest) Tryz.prog ops Q N L w := wl_step tbl tbl_ok hs hd h
theorem fo_tree3 : fieldOff Tryz.prog 35 3 = some 3 := by kernel_rfl
theorem to_trees : tyOne Tryz.prog 32 = true := by kernel_rfl
theorem to_tags : tyOne Tryz.prog 33 = true := by kernel_rfl
theorem ta_tree : tyAgg Tryz.prog 35 = some 5 := by kernel_rfl
theorem tz_tree : (Tryz.prog.info? 35).map (·.size) = some 5 := by kernel_rfl
theorem ta_tag : tyAgg Tryz.prog 81 = some 2 := by kernel_rfl
theorem tz_tag : (Tryz.prog.info? 81).map (·.size) = some 2 := by kernel_rfl
theorem es_trees : elemSize Tryz.prog 32 = some 5 := by kernel_rfl
theorem rt_tags : rowTy Tryz.prog 33 81 2 = true := by kernel_rfl
theorem zv_tree (w : World) : (zeroValue 35).run Tryz.prog w = .ok (.agg #[.int .i64 0, .slice none 0 0, .bool false, .slice none 0 0, .slice none 0 0]) w := by kernel_rfl
end Go.Proofs.YtlmnaffhadeolaaGreatDoor.Impl

namespace Go.Proofs.YtlmnaffhadeolaaGreatDoor.Got
open Go Go.RowKit
theorem ws {ops : Array Oper} {Q : Exit → Act → World → Prop} {N : Nat} {rest : List Oper} {L : Sl} {w : World} {d : Nat} {ty : TypeId} {pos : String} {aft : Array Edge} {o : Op} {v : Value}
  (hs : stepOp Impl.tbl L o = some v) (hd : Nat.blt d N = true) (h : WL rest Tryz.prog ops Q N ((d, v) :: L) w) : WL (⟨some d, o, ty, pos, aft, none⟩ :: rest) Tryz.prog ops Q N L w := wl_step Impl.tbl Impl.tbl_ok hs hd h
theorem S_zv_tree (w : World) : (zeroValue 35).run Tryz.prog w = .ok (.agg #[.int .i64 0, .slice none 0 0, .bool false, .slice none 0 0, .slice none 0 0]) w := by kernel_rfl
theorem S_zv_tag (w : World) : (zeroValue 81).run Tryz.prog w = .ok (.agg #[.int .u32 0, .slice none 0 0]) w := by kernel_rfl
theorem S_ta_tree : tyAgg Tryz.prog 35 = some 5 := by kernel_rfl
theorem S_tz_tree : (Tryz.prog.info? 35).map (·.size) = some 5 := by kernel_rfl
theorem S_ta_tag : tyAgg Tryz.prog 81 = some 2 := by kernel_rfl
theorem S_tz_tag : (Tryz.prog.info? 81).map (·.size) = some 2 := by kernel_rfl
theorem S_es_trees : elemSize Tryz.prog 32 = some 5 := by kernel_rfl
theorem S_es_tags : elemSize Tryz.prog 33 = some 2 := by kernel_rfl
theorem S_to_trees : tyOne Tryz.prog 32 = true := by kernel_rfl
theorem S_to_tags : tyOne Tryz.prog 33 = true := by kernel_rfl
theorem D_zv_tree (w : World) : (zeroValue 26).run Tryz.prog w = .ok (.agg #[.int .i64 0, .slice none 0 0, .bool false, .slice none 0 0, .slice none 0 0]) w := by kernel_rfl
theorem D_ta_tree : tyAgg Tryz.prog 26 = some 5 := by kernel_rfl
theorem D_tz_tree : (Tryz.prog.info? 26).map (·.size) = some 5 := by kernel_rfl
theorem D_to_trees : tyOne Tryz.prog 23 = true := by kernel_rfl
theorem D_to_tags : tyOne Tryz.prog 24 = true := by kernel_rfl
theorem D_fo_tree3 : fieldOff Tryz.prog 26 3 = some 3 := by kernel_rfl
theorem D_rt_trees : rowTy Tryz.prog 23 26 5 = true := by kernel_rfl
theorem D_rt_tags : rowTy Tryz.prog 24 79 2 = true := by kernel_rfl
def GotOK (t : Tree) : Prop := ∀ (B : Nat) (w : World) (ts : List Value), t.small → B ≤ w.heap.size → Rep (Lo B) w (treeD t) ts →
 Fn 13 [.agg ts.toArray] w fun v w' => ∃ cs : List Value, v = .agg cs.toArray ∧ Rep (In B w.heap.size w') w' (treeD t) cs
section
set_option maxRecDepth 100000
theorem got_of (t : Tree) (hF : ∀ x ∈ t.l, GotOK x) : GotOK t := by
 intro B w ts hsm hB ht
 obtain ⟨sv, lv, uv, rfl, hs, hl, hu⟩ := tree_cells ht
 obtain ⟨la, lc, rfl, _⟩ := hl.shape
 obtain ⟨sa, sc, rfl, _⟩ := hs.shape
 obtain ⟨ua, uc, rfl, _⟩ := hu.shape
 have hln := hsm.lens
 refine enter Tryz.func13 rfl Tryz.ntmps13 rfl ?_
 repeat (with_reducible first|apply wc_seq|apply wc_region)
 refine wl_box1 rfl rfl rfl (fun w1 hb1 hg1 hs1 => wl_alloc D_zv_tree rfl rfl (fun w2 hb2 hg2 hs2 => ?_))
 have hbt2 : Box w2 w.heap.size [.int .i64 t.n, .slice sa (t.s.map byteD).length sc, .bool t.nul, .slice la (t.l.map treeD).length lc, .slice ua (t.u.map tagD).length uc] 35 := hb1.kept hg2 (by simp)
 have hw2 : Below w.heap.size w w2 := (below_of hg1 (Nat.le_refl _) (by simp)).trans (below_of hg2 (by omega) (by simp))
 refine wl_nil (qk_thn (wc_seq (wc_region ?_)))
 repeat ((with_reducible apply ws);exact rfl;exact rfl)
 refine wl_loadB rfl to_i64 rfl hbt2 rfl ?_
 repeat ((with_reducible apply ws);exact rfl;exact rfl)
 refine wl_loadB rfl to_bytes rfl hbt2 rfl ?_
 repeat ((with_reducible apply ws);exact rfl;exact rfl)
 refine wl_loadB rfl to_bool rfl hbt2 rfl ?_
 refine wl_build rfl (cs := [.int .i64 t.n, .slice sa (t.s.map byteD).length sc, .bool t.nul, .slice none 0 0, .slice none 0 0]) (by kernel_rfl) rfl ?_
 refine wl_alloc D_zv_tree rfl rfl (fun w3 hb3 hg3 hs3 => ?_)
 refine wl_storeBAgg (vs := [.int .i64 t.n, .slice sa (t.s.map byteD).length sc, .bool t.nul, .slice none 0 0, .slice none 0 0]) rfl rfl rfl D_tz_tree rfl hb3 rfl (fun w4 hb4 hg4 hs4 => ?_)
 have hbt4 := (hbt2.kept hg3 (by simp)).kept hg4 (by simp; omega)
 have hbz4 := (hb2.kept hg3 (by simp)).kept hg4 (by simp; omega)
 have hw4 : Below w.heap.size w w4 := (hw2.trans (below_of hg3 (by omega) (by simp))).trans (below_of hg4 (by omega) (by intro k hk; simp at hk; omega))
 refine wl_nil (qk_thn ?_)
 refine wc_cut (α := Value) (fun d => [(3, .pointer (some ⟨w2.heap.size, 0, none⟩)), (2, .pointer (some ⟨w1.heap.size, 0, none⟩)), (1, .pointer (some ⟨w.heap.size, 0, none⟩))])
  (fun d w' => Below w.heap.size w w' ∧ w4.heap.size ≤ w'.heap.size ∧ Box w' w.heap.size [.int .i64 t.n, .slice sa (t.s.map byteD).length sc, .bool t.nul, .slice la (t.l.map treeD).length lc, .slice ua (t.u.map tagD).length uc] 35 ∧ Box w' w1.heap.size [.int .i64 0, .slice none 0 0, .bool false, .slice none 0 0, .slice none 0 0] 26 ∧ Box w' w2.heap.size [.int .i64 t.n, .slice sa (t.s.map byteD).length sc, .bool t.nul, d, .slice none 0 0] 26 ∧ RowD B w4.heap.size w2.heap.size 26 5 w' d (t.l.map treeD)) ?_ ?_
 ·repeat first|(with_reducible first|apply wc_seq|apply wc_region)|((with_reducible apply ws);exact rfl;exact rfl)
  refine wl_loadB rfl S_to_trees rfl hbt4 rfl ?_
  repeat first|(with_reducible first|apply wl_nil|apply qk_thn|apply wc_block)|((with_reducible apply ws);exact rfl;exact rfl)
  refine wc_loop (α := PtS) (fun s => [(18, .int .i64 (s.i : Int)), (17, .int .i64 ((t.l.map treeD).length : Int)), (16, .slice la (t.l.map treeD).length lc), (3, .pointer (some ⟨w2.heap.size, 0, none⟩)), (2, .pointer (some ⟨w1.heap.size, 0, none⟩)), (1, .pointer (some ⟨w.heap.size, 0, none⟩))])
   (fun s w' => s.i ≤ t.l.length ∧ Below w.heap.size w w' ∧ w4.heap.size ≤ w'.heap.size ∧ Box w' w.heap.size [.int .i64 t.n, .slice sa (t.s.map byteD).length sc, .bool t.nul, .slice la (t.l.map treeD).length lc, .slice ua (t.u.map tagD).length uc] 35 ∧ Box w' w1.heap.size [.int .i64 0, .slice none 0 0, .bool false, .slice none 0 0, .slice none 0 0] 26 ∧ Box w' w2.heap.size [.int .i64 t.n, .slice sa (t.s.map byteD).length sc, .bool t.nul, s.d, .slice none 0 0] 26 ∧ RowD B w4.heap.size w2.heap.size 26 5 w' s.d ((t.l.take s.i).map treeD)) (fun s => t.l.length - s.i) ⟨0, .slice none 0 0, []⟩ ⟨rfl, rfl, rfl, rfl, rfl, rfl, trivial⟩ ⟨Nat.zero_le _, hw4, Nat.le_refl _, hbt4, hbz4, hb4, RowD.nil _ _ _ _ _ _⟩ ?_
  rintro ⟨i, d, _⟩ w12 ⟨hi, hw12, hs1012, hbt12, hbr12, hbq12, hrd12⟩
  simp only [] at hi hbq12 hrd12
  change WC _ _ _ _ [(18, .int .i64 (i : Int)), (17, .int .i64 ((t.l.map treeD).length : Int)), (16, .slice la (t.l.map treeD).length lc), (3, .pointer (some ⟨w2.heap.size, 0, none⟩)), (2, .pointer (some ⟨w1.heap.size, 0, none⟩)), (1, .pointer (some ⟨w.heap.size, 0, none⟩))] _
  repeat first|(with_reducible first|apply wc_seq|apply wc_region|apply wl_nil|apply qk_thn)|((with_reducible apply ws);exact rfl;exact rfl)
  by_cases hlt : i < t.l.length
  ·refine wc_yes rfl (by simpa using hlt) ?_
   obtain ⟨b, off, c', cs, hv, hbB, hcs, hlen, hr⟩ := (hl.below (hw12.mono hB) (Nat.le_refl _)).get (sz := 5) (i := i) (by intro d hd; obtain ⟨x, _, rfl⟩ := List.mem_map.1 hd; exact treeD_width x) (by simpa using hlt)
   simp only [Value.slice.injEq, List.length_map] at hv
   obtain ⟨rfl, _, rfl⟩ := hv
   simp only [List.getElem_map] at hr
   obtain ⟨hcone, _⟩ := treeG_one hr
   repeat (with_reducible first|apply wc_seq|apply wc_region|apply qk_thn|apply wc_block|apply wc_skip)
   refine wl_indexAddr rfl rfl S_es_trees rfl (by simpa using hlt) ?_
   refine wl_loadAgg rfl (by rw [hlen]; exact S_ta_tree) rfl (fun j v e => hcs.cell e) ?_
   refine wl_alloc S_zv_tree rfl rfl (fun w13 hb13 hg13 hs13 => ?_)
   refine wl_storeBAgg rfl rfl rfl (by rw [hlen]; exact S_tz_tree) hcone hb13 (by rw [hlen]; rfl) (fun w14 hb14 hg14 hs14 => ?_)
   have hw1214 : Below w12.heap.size w12 w14 := (below_of hg13 (Nat.le_refl _) (by simp)).trans (below_of hg14 (by omega) (by intro k hk; simp at hk; omega))
   have hw14 : Below w.heap.size w w14 := hw12.trans (hw1214.mono (by omega))
   have hrd14 := hrd12.below hw1214
   have hbr14 := hbr12.below hw1214 hbr12.lt
   have hbt14 := hbt12.below hw1214 hbt12.lt
   have hbq14 := hbq12.below hw1214 hbq12.lt
   have hdl : ∀ g, d.ownBlock = some g → w4.heap.size ≤ g ∧ g < w12.heap.size := hrd12.low
   repeat (with_reducible first|apply wl_nil|apply qk_thn)
   refine wc_parS [(0, .pointer (some ⟨w2.heap.size, 0 + 3, none⟩)), (1, d), (2, .agg cs.toArray), (6, .pointer (some ⟨w2.heap.size, 0 + 3, none⟩))] [7, 5, 4, 3]
    (fun vals w' => Below w.heap.size w w' ∧ w14.heap.size ≤ w'.heap.size ∧ Box w' w.heap.size [.int .i64 t.n, .slice sa (t.s.map byteD).length sc, .bool t.nul, .slice (some ⟨b, off, none⟩) (t.l.map treeD).length lc, .slice ua (t.u.map tagD).length uc] 35 ∧ Box w' w1.heap.size [.int .i64 0, .slice none 0 0, .bool false, .slice none 0 0, .slice none 0 0] 26 ∧ Box w' w12.heap.size cs 35 ∧ match vals with
     | [] => Below w14.heap.size w14 w'
     | [v] => Below w14.heap.size w14 w' ∧ ∃ xs' : List Value, v = .agg xs'.toArray ∧ Rep (In B w14.heap.size w') w' (treeD t.l[i]) xs'
     | [v, _] => Below w14.heap.size w14 w' ∧ ∃ (b8 : Nat) (xs' : List Value), v = .slice (some ⟨b8, 0, none⟩) 1 1 ∧ Box w' b8 xs' 26 ∧ xs'.length = 5 ∧ (xs'.all fun v => v.oneCell') = true ∧ Rep (In B w14.heap.size w') w' (treeD t.l[i]) xs'
     | [v, _, _] => Box w' w2.heap.size [.int .i64 t.n, .slice sa (t.s.map byteD).length sc, .bool t.nul, d, .slice none 0 0] 26 ∧ RowD B w4.heap.size w2.heap.size 26 5 w' v ((t.l.take (i + 1)).map treeD)
     | _ :: v :: _ => Box w' w2.heap.size [.int .i64 t.n, .slice sa (t.s.map byteD).length sc, .bool t.nul, v, .slice none 0 0] 26 ∧ RowD B w4.heap.size w2.heap.size 26 5 w' v ((t.l.take (i + 1)).map treeD))
    mixed rfl rfl rfl rfl rfl (by show ([0,1,2,6] : List Nat).Nodup; decide) rfl rfl (by decide) rfl rfl rfl rfl ⟨hw14.drew, Nat.le_refl _, hbt14, hbr14, hb14, (Below.refl _ w14).drew⟩ ?_ ⟨?_, ?_, ?_, ?_, trivial⟩ ?_
   ·intro p hp vals w' hC hnp a k
    obtain ⟨hC1, hC2, hC3, hC4, hC5, hC6⟩ := hC
    simp only [List.mem_cons, List.not_mem_nil, or_false] at hp
    rcases hp with rfl | rfl | rfl | rfl
    ·exact gv rfl rfl (rn_fieldAddr k rfl D_fo_tree3)
    ·have hbx : Box w' w2.heap.size [.int .i64 t.n, .slice sa (t.s.map byteD).length sc, .bool t.nul, d, .slice none 0 0] 26 := by
      match vals, hC6, hnp with
      | [], h, _ => exact hbq14.below h hbq14.lt
      | [_], h, _ => exact hbq14.below h.1 hbq14.lt
      | [_, _], h, _ => exact hbq14.below h.1 hbq14.lt
      | [_, _, _], h, _ => exact h.1
      | _ :: _ :: _ :: _ :: r, _, hnp =>
       have := hnp 7 (by rw [show ([7, 5, 4, 3] : List Nat).length - (_ :: _ :: _ :: _ :: r).length = 0 from by simp only [List.length_cons, List.length_nil]; omega]; simp)
       exact absurd (show true = false from this) (by simp)
     exact gv rfl rfl (rn_load k rfl D_to_trees (hbx.cell0 (i := 3) rfl))
    ·exact gv rfl rfl (rn_loadBAgg k rfl (by rw [hlen]; exact S_ta_tree) hC5)
    ·exact gv rfl rfl (rn_fieldAddr k rfl D_fo_tree3)
   ·rintro vals w' hvl ⟨hC1, hC2, hC3, hC4, hC5, hC6⟩ a k
    match vals, hvl with
    | [v9, v8, v7], _ =>
     obtain ⟨hbx, hrd⟩ := hC6
     obtain ⟨a9, c9, rfl⟩ := hrd.shape
     refine ⟨_, rfl, does_storeB k rfl rfl D_to_trees rfl hbx rfl (fun w'' hbx'' hg'' hs'' => ⟨hC1.trans (below_of hg'' (by omega) (by intro q hq; simp at hq; omega)), by omega, hC3.kept hg'' (by simp; omega), hC4.kept hg'' (by simp; omega), hC5.kept hg'' (by simp; omega), hbx'', hrd.stored hg''⟩)⟩
   ·rintro vals w' hvl ⟨hC1, hC2, hC3, hC4, hC5, hC6⟩ a k
    match vals, hvl with
    | [v8, v7], _ =>
     obtain ⟨hb7', b8, xs', rfl, hb8, hl5, hone'', hrep⟩ := hC6
     have hrdw := hrd14.below hb7'
     obtain ⟨xs0, hrow0, hreps0⟩ := hrdw.row
     refine ⟨_, rfl, does_app1 k D_rt_trees rfl rfl hb8 hl5 hone'' hrow0 (by omega) (by simp only [List.length_map, List.length_take, many]; omega) (fun d' w'' hrow'' hg'' => ?_)⟩
     have hs'' := hg''.grown.size
     have hne : ∀ q, q < w4.heap.size ∨ w12.heap.size ≤ q → some q ≠ d.ownBlock := fun q hq e => by have := hdl q e.symm; omega
     refine ⟨hC1.trans (hg''.below (by omega) (fun g hg => by have := hdl g hg; omega)), by omega, hC3.kept hg''.grown (hne _ (by omega)), hC4.kept hg''.grown (hne _ (by omega)), hC5.kept hg''.grown (hne _ (by omega)), (hbq14.below hb7' hbq14.lt).kept hg''.grown (hne _ (by omega)), ?_⟩
     have hsn := hrdw.snoc (by omega) (by omega) hreps0 (hrep.off (by omega) ⟨by omega, by omega⟩ (fun g hg => by have := hdl g hg; omega)) hrow'' hg''
     rw [List.take_succ_eq_append_getElem hlt, List.map_append]
     exact hsn
   ·rintro vals w' hvl ⟨hC1, hC2, hC3, hC4, hC5, hC6⟩ a k
    match vals, hvl with
    | [v7], _ =>
     obtain ⟨hb7', xs', rfl, hrep⟩ := hC6
     obtain ⟨hone'', hl5⟩ := treeG_one hrep
     have hga := grown_alloc w' (.cells xs'.toArray 26)
     refine ⟨_, rfl, does_slice1 k D_rt_trees rfl rfl hl5 rfl ⟨hC1.trans (below_of hga (by omega) (by simp)), by simp; omega, hC3.kept hga (by simp), hC4.kept hga (by simp), hC5.kept hga (by simp), hb7'.trans (below_of hga (by omega) (by simp)), _, xs', rfl, box_alloc _ _ _, hl5, hone'', hrep.up (In.up (Nat.le_refl _) (by simp)) (fun r hr => hga.block r hr.2 (by simp))⟩⟩
   ·rintro vals w' hvl ⟨hC1, hC2, hC3, hC4, hC5, hC6⟩ a k
    match vals, hvl with
    | [], _ =>
     simp only [] at hC6
     refine ⟨_, rfl, does_call k rfl (by kernel_rfl) ((hF t.l[i] (List.getElem_mem hlt) B w' _ (hsm.l _ (List.getElem_mem hlt)) (by omega) (Rep.below hr ((hw1214.trans (hC6.mono (by omega))).mono (by omega)) (Nat.le_refl _))).mono ?_)⟩
     rintro e w'' ⟨v, rfl, hb'', cs'', rfl, hrep⟩
     exact ⟨_, rfl, hC1.trans (hb''.mono (by omega)), by have := hb''.size; omega, hC3.below hb'' hC3.lt, hC4.below hb'' hC4.lt, hC5.below hb'' hC5.lt, hC6.trans (hb''.mono (by omega)), cs'', rfl, hrep.up (In.up (by omega) (Nat.le_refl _)) (fun _ _ => rfl)⟩
   ·rintro vals w' hvl ⟨hC1, hC2, hC3, hC4, hC5, hC6⟩
    match vals, hvl with
    | [v11, v9, v8, v7], _ =>
     refine qk_thn ?_
     repeat (with_reducible apply wc_region)
     refine wl_add rfl rfl rfl (r := ((i + 1 : Nat) : Int)) (by rw [IntKind.wrap_i64]; omega) ?_
     repeat first|(with_reducible apply wl_nil)|((with_reducible apply ws);exact rfl;exact rfl)
     exact qk_round ⟨i + 1, v9, []⟩ ⟨rfl, rfl, rfl, rfl, rfl, rfl, trivial⟩ ⟨by simp only []; omega, hC1, by omega, hC3, hC4, hC6.1, hC6.2⟩ (by simp only []; omega)
  ·refine wc_no rfl (by simpa using hlt) ?_
   repeat (with_reducible first|apply wc_exit|apply qk_thn_exit|apply qk_in_exit|apply qk_round_exit)
   rw [List.take_of_length_le (by omega)] at hrd12
   exact qk_cut d ⟨rfl, rfl, rfl, trivial⟩ ⟨hw12, hs1012, hbt12, hbr12, hbq12, hrd12⟩
 rintro d w5 ⟨hw5, hs45, hbt5, hbz5, hbo5, hrd5⟩
 have hdone := hrd5.sqb
 obtain ⟨da, dc, rfl⟩ := hrd5.shape
 refine wc_cut (α := Value) (fun e => [(3, .pointer (some ⟨w2.heap.size, 0, none⟩)), (2, .pointer (some ⟨w1.heap.size, 0, none⟩))])
  (fun e w' => Below w.heap.size w w' ∧ w5.grownBy w' (some w2.heap.size) ∧ Box w' w1.heap.size [.int .i64 0, .slice none 0 0, .bool false, .slice none 0 0, .slice none 0 0] 26 ∧ Box w' w2.heap.size [.int .i64 t.n, .slice sa (t.s.map byteD).length sc, .bool t.nul, .slice da (t.l.map treeD).length dc, e] 26 ∧ RowD B w5.heap.size w2.heap.size 79 2 w' e (t.u.map tagD)) ?_ ?_
 ·repeat first|(with_reducible first|apply wc_seq|apply wc_region)|((with_reducible apply ws);exact rfl;exact rfl)
  refine wl_loadB rfl S_to_tags rfl hbt5 rfl ?_
  rw [show (t.u.map tagD).length = t.u.length from List.length_map ..]
  repeat first|(with_reducible first|apply wl_nil|apply qk_thn|apply wc_block)|((with_reducible apply ws);exact rfl;exact rfl)
  refine wc_loop (α := PtS) (fun s => [(33, .int .i64 (s.i : Int)), (32, .int .i64 (t.u.length : Int)), (31, .slice ua t.u.length uc), (3, .pointer (some ⟨w2.heap.size, 0, none⟩)), (2, .pointer (some ⟨w1.heap.size, 0, none⟩)), (1, .pointer (some ⟨w.heap.size, 0, none⟩))])
   (fun s w' => s.i ≤ t.u.length ∧ Below w.heap.size w w' ∧ w5.grownBy w' (some w2.heap.size) ∧ Box w' w1.heap.size [.int .i64 0, .slice none 0 0, .bool false, .slice none 0 0, .slice none 0 0] 26 ∧ Box w' w2.heap.size [.int .i64 t.n, .slice sa (t.s.map byteD).length sc, .bool t.nul, .slice da (t.l.map treeD).length dc, s.d] 26 ∧ RowD B w5.heap.size w2.heap.size 79 2 w' s.d ((t.u.take s.i).map tagD)) (fun s => t.u.length - s.i) ⟨0, .slice none 0 0, []⟩ ⟨rfl, rfl, rfl, rfl, rfl, rfl, trivial⟩ ⟨Nat.zero_le _, hw5, ⟨rfl, rfl, rfl, Nat.le_refl _, fun _ _ _ => rfl⟩, hbz5, hbo5, RowD.nil _ _ _ _ _ _⟩ ?_
  rintro ⟨i, e, _⟩ w7 ⟨hi, hw7, hgb7, hbz7, hbo7, hrd7⟩
  simp only [] at hi hbo7 hrd7
  change WC _ _ _ _ [(33, .int .i64 (i : Int)), (32, .int .i64 (t.u.length : Int)), (31, .slice ua t.u.length uc), (3, .pointer (some ⟨w2.heap.size, 0, none⟩)), (2, .pointer (some ⟨w1.heap.size, 0, none⟩)), (1, .pointer (some ⟨w.heap.size, 0, none⟩))] _
  repeat first|(with_reducible first|apply wc_seq|apply wc_region|apply wl_nil|apply qk_thn)|((with_reducible apply ws);exact rfl;exact rfl)
  by_cases hlt : i < t.u.length
  ·refine wc_yes rfl (by simpa using hlt) ?_
   obtain ⟨b, off, c', cs, hv, hbB, hcs, hlen, hr⟩ := (hu.below (hw7.mono hB) (Nat.le_refl _)).get (sz := 2) (i := i) (by intro d hd; obtain ⟨x, _, rfl⟩ := List.mem_map.1 hd; exact tagD_width x) (by simpa using hlt)
   simp only [Value.slice.injEq, List.length_map] at hv
   obtain ⟨rfl, _, rfl⟩ := hv
   simp only [List.getElem_map] at hr
   obtain ⟨hcone, _⟩ := tag_one hr
   obtain ⟨qv, hce, hqv⟩ := tag_cells hr
   subst hce
   obtain ⟨qa, qc, rfl, _⟩ := hqv.shape
   repeat (with_reducible first|apply wc_seq|apply wc_region|apply qk_thn|apply wc_block|apply wc_skip)
   refine wl_indexAddr rfl rfl S_es_tags rfl hlt ?_
   refine wl_loadAgg (cs := [.int .u32 (t.u[i].1 : Nat), .slice qa (t.u[i].2.map byteD).length qc]) rfl S_ta_tag rfl (fun j v e => hcs.cell e) ?_
   refine wl_alloc S_zv_tag rfl rfl (fun w8 hb8 hg8 hs8 => ?_)
   refine wl_storeBAgg (vs := [.int .u32 (t.u[i].1 : Nat), .slice qa (t.u[i].2.map byteD).length qc]) rfl rfl rfl S_tz_tag hcone hb8 rfl (fun w9 hb9 hg9 hs9 => ?_)
   have hw79 : Below w7.heap.size w7 w9 := (below_of hg8 (Nat.le_refl _) (by simp)).trans (below_of hg9 (by omega) (by intro k hk; simp at hk; omega))
   have hs57 := hgb7.size
   have hw9 : Below w.heap.size w w9 := hw7.trans (hw79.mono (by omega))
   have hgb9 : w5.grownBy w9 (some w2.heap.size) := grown_but hgb7 (grown_of hw79) (fun g h => by cases h)
   have hbz9 := hbz7.below hw79 hbz7.lt
   have hbo9 := hbo7.below hw79 hbo7.lt
   have hrd9 := hrd7.below hw79
   obtain ⟨ea, ec, hes⟩ := hrd9.shape
   obtain ⟨xs0, hrow0, hreps0⟩ := hrd9.row
   have hel : ∀ g, e.ownBlock = some g → w5.heap.size ≤ g ∧ g < w7.heap.size := hrd7.low
   have hs79 := hw79.size
   repeat first|(with_reducible first|apply wc_region|apply wl_nil|apply qk_thn)|((with_reducible apply ws);exact rfl;exact rfl)
   refine wl_loadB rfl D_to_tags rfl hbo9 rfl ?_
   repeat ((with_reducible apply ws);exact rfl;exact rfl)
   refine wl_loadB rfl to_u32 rfl hb9 rfl ?_
   repeat ((with_reducible apply ws);exact rfl;exact rfl)
   refine wl_loadB rfl to_bytes rfl hb9 rfl ?_
   refine wl_build rfl (cs := [.int .u32 (t.u[i].1 : Nat), .slice qa (t.u[i].2.map byteD).length qc]) (by kernel_rfl) rfl ?_
   refine wl_app1 (cs := [.int .u32 (t.u[i].1 : Nat), .slice qa (t.u[i].2.map byteD).length qc]) D_rt_tags rfl rfl rfl hcone rfl rfl rfl rfl hrow0 (by omega) (by simp only [List.length_map, List.length_take, many]; omega) (fun d' w10 hrow10 hg10 => ?_)
   have hs10 := hg10.grown.size
   have hne : ∀ q, q < w5.heap.size ∨ w7.heap.size ≤ q → some q ≠ e.ownBlock := fun q hq h => by have := hel q h.symm; omega
   have hr9 : Rep (Lo B) w9 (tagD t.u[i]) [.int .u32 (t.u[i].1 : Nat), .slice qa (t.u[i].2.map byteD).length qc] := Rep.below hr (hw79.mono (by omega)) (Nat.le_refl _)
   have hsn := hrd9.snoc (by omega) (by omega) hreps0 (hr9.offLo (by omega) (by omega) (fun g hg => by have := hel g hg; omega)) hrow10 hg10
   have hbo10 := hbo9.kept hg10.grown (hne _ (by omega))
   have hbz10 := hbz9.kept hg10.grown (hne _ (by omega))
   obtain ⟨fa, fc, hfs⟩ := hsn.shape
   subst hfs
   repeat ((with_reducible apply ws);exact rfl;exact rfl)
   refine wl_storeB rfl rfl D_to_tags rfl hbo10 rfl (fun w11 hbo11 hg11 hs11 => ?_)
   repeat (with_reducible first|apply wc_region|apply wl_nil|apply qk_thn|apply qk_in)
   refine wl_add rfl rfl rfl (r := ((i + 1 : Nat) : Int)) (by rw [IntKind.wrap_i64]; omega) ?_
   repeat first|(with_reducible apply wl_nil)|((with_reducible apply ws);exact rfl;exact rfl)
   refine qk_round ⟨i + 1, _, []⟩ ⟨rfl, rfl, rfl, rfl, rfl, rfl, trivial⟩ ⟨by simp only []; omega, (hw9.trans (hg10.below (by omega) (fun g hg => by have := hel g hg; omega))).trans (below_of hg11 (by omega) (by intro q hq; simp at hq; omega)), grown_but (grown_but hgb9 hg10.grown (fun q hq => .inr (by have := hel q hq; omega))) hg11 (fun q hq => .inl (by simpa using hq.symm)), hbz10.kept hg11 (by simp; omega), hbo11, ?_⟩ (by simp only []; omega)
   simp only []
   rw [List.take_succ_eq_append_getElem hlt, List.map_append]
   exact hsn.stored hg11
  ·refine wc_no rfl (by simpa using hlt) ?_
   repeat (with_reducible first|apply wc_exit|apply qk_thn_exit|apply qk_in_exit|apply qk_round_exit)
   rw [List.take_of_length_le (by omega)] at hrd7
   exact qk_cut e ⟨rfl, rfl, trivial⟩ ⟨hw7, hgb7, hbz7, hbo7, hrd7⟩
 rintro e w6 ⟨hw6, hgb6, hbz6, hbo6, hrd6⟩
 obtain ⟨ea, ec, hes⟩ := hrd6.shape
 subst hes
 repeat (with_reducible first|apply wc_seq|apply wc_region)
 refine wl_loadBAgg (cs := [.int .i64 t.n, .slice sa (t.s.map byteD).length sc, .bool t.nul, .slice da (t.l.map treeD).length dc, .slice ea (t.u.map tagD).length ec]) rfl D_ta_tree rfl hbo6 ?_
 refine wl_storeBAgg (vs := [.int .i64 t.n, .slice sa (t.s.map byteD).length sc, .bool t.nul, .slice da (t.l.map treeD).length dc, .slice ea (t.u.map tagD).length ec]) rfl rfl rfl D_tz_tree rfl hbz6 rfl (fun w7 hbz7 hg7 hs7 => ?_)
 repeat (with_reducible first|apply wl_nil|apply qk_thn|apply wc_ret)
 have hs56 := hgb6.size
 have hw7 := hw6.trans (below_of hg7 (by have := hw6.size; omega) (by intro q hq; simp at hq; omega))
 refine qk_retCell (cs := [.int .i64 t.n, .slice sa (t.s.map byteD).length sc, .bool t.nul, .slice da (t.l.map treeD).length dc, .slice ea (t.u.map tagD).length ec]) rfl rfl D_ta_tree hbz7 ⟨_, rfl, hw7, _, rfl, ?_⟩
 have hse := hrd6.sqb
 have e0 : t = .mk t.n t.s t.nul t.l t.u := by cases t; rfl
 rw [e0]
 refine rep_tree ((hs.below (hw7.mono hB) (Nat.le_refl _)).up (fun r hr => ⟨.inl hr, by simp only [Lo] at hr; omega⟩) (fun _ _ => rfl)) ?_ ?_
 ·refine hdone.up (fun r hr => In.up (by omega) (by omega) r hr.1) (fun r hr => ?_)
  have h1 : r ≠ w1.heap.size := by
   rcases hr.1.1 with h | h <;> omega
  rw [hg7.block r (by have := hr.1.2; omega) (by simp; omega), hgb6.block r hr.1.2 (by simpa using hr.2)]
 ·refine hse.up (fun r hr => In.up (by omega) (by omega) r hr.1) (fun r hr => ?_)
  have h1 : r ≠ w1.heap.size := by
   rcases hr.1.1 with h | h <;> omega
  rw [hg7.block r hr.1.2 (by simp; omega)]
end
mutual
theorem got_ok : ∀ t : Tree, GotOK t
 | .mk _ _ _ l _ => got_of _ (gots_ok l)
theorem gots_ok : ∀ l : List Tree, ∀ x ∈ l, GotOK x
 | [], x, hx => by cases hx
 | y :: l, x, hx => by
  have hy := got_ok y
  have hl := gots_ok l
  rcases List.mem_cons.1 hx with h0 | h1
  ·rw [h0]; exact hy
  ·exact hl x h1
end
end Go.Proofs.YtlmnaffhadeolaaGreatDoor.Got

namespace Go.Proofs.YtlmnaffhadeolaaGreatDoor
open Go Go.RowKit
section
variable {P : Program} {N : Nat} {L : Sl} {a : Act} {w : World} {d : Nat} {ty : TypeId} {pos : String} {aft : Array Edge}
theorem wl_neqB {ops : Array Oper} {Q : Exit → Act → World → Prop} {rest : List Oper} {x y : Operand} {t u : TypeId} {m n : Bool} (hx : ev L x = some (.bool m)) (hy : ev L y = some (.bool n)) (ht : P.underlying t = some .bool) (hd : Nat.blt d N = true) (h : WL rest P ops Q N ((d, .bool (m != n)) :: L) w) :
  WL (⟨some d, .binOp .neq t x y u, ty, pos, aft, none⟩ :: rest) P ops Q N L w := by
 intro a k
 refine st_of (o := ⟨some d, .binOp .neq t x y u, ty, pos, aft, none⟩) (v := .bool (m != n)) (w' := w) rfl ?_ (h _ (k.put _ hd))
 simp only [execOp, k.eval hx, k.eval hy]
 simp [eqGuard, run_neq_bool w t m n ht]
 cases m <;> cases n <;> rfl
theorem rn_gtr {d : Option Nat} {gd : Option (Nat × Bool)} {x y : Operand} {t u : TypeId} {kk : IntKind} {m n : Int} (k : Kn N a L) (hx : ev L x = some (.int kk m)) (hy : ev L y = some (.int kk n)) : (execOp a.eval ⟨d, .binOp .gtr t x y u, ty, pos, aft, gd⟩).run P w = .ok (.value (.bool (decide (n < m)))) w := by
 simp only [execOp, k.eval hx, k.eval hy]; simp [go_sem]
theorem rn_sub {d : Option Nat} {gd : Option (Nat × Bool)} {x y : Operand} {t u : TypeId} {kk : IntKind} {m n r : Int} (k : Kn N a L) (hx : ev L x = some (.int kk m)) (hy : ev L y = some (.int kk n)) (hr : kk.wrap (m - n) = r) : (execOp a.eval ⟨d, .binOp .sub t x y u, ty, pos, aft, gd⟩).run P w = .ok (.value (.int kk r)) w := by
 simp only [execOp, k.eval hx, k.eval hy]; simp [go_sem, hr]
end
section
variable {P : Program} {N : Nat} {L : Sl} {w : World}
theorem qk_retCell2 {fn : Func} {R : Ending → World → Prop} {t u b : Nat} {tt e : TypeId} {cs : List Value} {x : Value} (hr : fn.results = #[.cell t tt, .tmp u]) (hv : lk L t = some (.pointer (some ⟨b, 0, none⟩))) (ht : tyAgg P tt = some cs.length) (hB : Box w b cs e) (hx : lk L u = some x) (h : R (.returned (.tuple #[.agg cs.toArray, x])) w) : QK .ret (bodyPost P fn R) N L w := by
 intro a k
 have h1 := k.at_ t _ hv
 have h2 := k.at_ u _ hx
 refine ⟨k.defers, .tuple #[.agg cs.toArray, x], ?_, h⟩
 have hl := run_loadCells_list (P := P) w ⟨b, 0, none⟩ cs (fun j v e => by rw [add_plain _ _ rfl]; simp only [Nat.zero_add]; exact hB.cell e)
 unfold tyAgg at ht
 simp only [gt] at h1 h2
 rw [Array.getD_eq_getD_getElem?] at h1 h2
 split at ht
 ·rename_i u hu
  cases hi : P.info? tt with
  | none => simp [hi] at ht
  | some i => simp [hi] at ht; simp [results, hr, h1, h2, loadVar, isAgg, run_underlying hu, sizeOf, typeInfo, hi, ht, hl, asAddr]
 ·rename_i u hu
  cases hi : P.info? tt with
  | none => simp [hi] at ht
  | some i => simp [hi] at ht; simp [results, hr, h1, h2, loadVar, isAgg, run_underlying hu, sizeOf, typeInfo, hi, ht, hl, asAddr]
 ·cases ht
end
end Go.Proofs.YtlmnaffhadeolaaGreatDoor

namespace Go.Proofs.YtlmnaffhadeolaaGreatDoor.Tlk
open Go Go.RowKit
section
variable {P : Program} {ops : Array Oper} {Q : Exit → Act → World → Prop} {N : Nat} {rest : List Oper} {L : Sl} {w : World} {d : Nat} {op : Op} {ty : TypeId} {pos : String} {aft : Array Edge}
theorem wl_does (hd : Nat.blt d N = true) (h : ∀ a, Kn N a L → Does P ⟨some d, op, ty, pos, aft, none⟩ a w fun v w' => WL rest P ops Q N ((d, v) :: L) w') : WL (⟨some d, op, ty, pos, aft, none⟩ :: rest) P ops Q N L w := by
 intro a k
 refine wpList_plain rfl (fun K hK => h a k K Q (fun v w' hv => hK _ _ (hv _ (k.put v hd))))
end
theorem ws {ops : Array Oper} {Q : Exit → Act → World → Prop} {N : Nat} {rest : List Oper} {L : Sl} {w : World} {d : Nat} {ty : TypeId} {pos : String} {aft : Array Edge} {o : Op} {v : Value}
  (hs : stepOp Impl.tbl L o = some v) (hd : Nat.blt d N = true) (h : WL rest Tryz.prog ops Q N ((d, v) :: L) w) : WL (⟨some d, o, ty, pos, aft, none⟩ :: rest) Tryz.prog ops Q N L w := wl_step Impl.tbl Impl.tbl_ok hs hd h
set_option maxRecDepth 100000
theorem b0 (n : Int) : Tryz.prog.built 35 [(0, .int .i64 n)] = some #[.int .i64 n, .slice none 0 0, .bool false, .slice none 0 0, .slice none 0 0] := by kernel_rfl
theorem b1 (a : Option Addr) (n c : Nat) : Tryz.prog.built 35 [(1, .slice a n c)] = some #[.int .i64 0, .slice a n c, .bool false, .slice none 0 0, .slice none 0 0] := by kernel_rfl
theorem b3 (a : Option Addr) (n c : Nat) : Tryz.prog.built 35 [(3, .slice a n c)] = some #[.int .i64 0, .slice none 0 0, .bool false, .slice a n c, .slice none 0 0] := by kernel_rfl
theorem sz5 : sizeIs Tryz.prog 35 5 = true := by kernel_rfl
theorem tty : TTy Tryz.prog 35 := ⟨b0, b1, b3, sz5, Impl.ta_tree, Impl.zv_tree⟩
theorem rep_flagC {ok : Nat → Prop} {w : World} : Rep ok w (treeD nullT) (flagC true) := by
 have := rep_text (ok := ok) (w := w) (s := []) (sv := .slice none 0 0) (b := true) rep_nilS
 exact this
theorem pt_str : (match Tryz.prog.underlying 82 with | some (.pointer _) => true | _ => false) = true := by kernel_rfl
theorem is_str : isStr Tryz.prog 9 = true := by kernel_rfl
theorem is_bytes : isBytes Tryz.prog 22 = true := by kernel_rfl
theorem boolP : TlC Tryz.prog 149 0 (-1) := by
 refine ⟨by kernel_rfl, fun B w d c T hr hB hT => ?_⟩
 have hT' : ∃ b : Bool, d = .lit (.bool b) ∧ T = leafT (if b then 1 else 0) := hT
 obtain ⟨b, rfl, rfl⟩ := hT'
 simp only [Rep, List.cons.injEq, and_true] at hr
 subst hr
 refine enter (vs := [.bool b]) Tryz.func149 rfl Tryz.ntmps149 rfl ?_
 repeat (with_reducible first|apply wc_seq|apply wc_region)
 refine wl_alloc Impl.zv_tree rfl rfl (fun w1 hb1 hg1 hs1 => ?_)
 repeat first|(with_reducible first|apply wc_seq|apply wc_region|apply wl_nil|apply qk_thn)|((with_reducible apply ws);exact rfl;exact rfl)
 cases b with
 | true =>
  refine wc_yes rfl rfl ?_
  repeat (with_reducible first|apply wc_seq|apply wc_region)
  refine wl_build rfl (cs := [.int .i64 1, .slice none 0 0, .bool false, .slice none 0 0, .slice none 0 0]) (by kernel_rfl) rfl ?_
  refine wl_storeBAgg (vs := [.int .i64 1, .slice none 0 0, .bool false, .slice none 0 0, .slice none 0 0]) rfl rfl rfl Impl.tz_tree rfl hb1 rfl (fun w2 hb2 hg2 hs2 => ?_)
  repeat (with_reducible first|apply wl_nil|apply qk_thn|apply wc_ret|apply qk_thn_ret)
  refine qk_retCell (cs := [.int .i64 1, .slice none 0 0, .bool false, .slice none 0 0, .slice none 0 0]) rfl rfl Impl.ta_tree hb2 ⟨_, leafT 1, rfl, rep_leaf 1, ⟨true, rfl, rfl⟩, ?_⟩
  exact ⟨hg2.os.trans hg1.os, hg2.tape.trans hg1.tape, hg2.output.trans hg1.output, by omega, fun j hj _ => by rw [hg2.block j (by omega) (by simp; omega), hg1.block j hj (by simp)]⟩
 | false =>
  refine wc_no rfl rfl ?_
  repeat (with_reducible first|apply wc_seq|apply wc_region|apply qk_thn|apply wc_skip)
  refine wl_build rfl (cs := [.int .i64 0, .slice none 0 0, .bool false, .slice none 0 0, .slice none 0 0]) (by kernel_rfl) rfl ?_
  refine wl_storeBAgg (vs := [.int .i64 0, .slice none 0 0, .bool false, .slice none 0 0, .slice none 0 0]) rfl rfl rfl Impl.tz_tree rfl hb1 rfl (fun w2 hb2 hg2 hs2 => ?_)
  repeat (with_reducible first|apply wl_nil|apply qk_thn|apply wc_ret)
  refine qk_retCell (cs := [.int .i64 0, .slice none 0 0, .bool false, .slice none 0 0, .slice none 0 0]) rfl rfl Impl.ta_tree hb2 ⟨_, leafT 0, rfl, rep_leaf 0, ⟨false, rfl, rfl⟩, ?_⟩
  exact ⟨hg2.os.trans hg1.os, hg2.tape.trans hg1.tape, hg2.output.trans hg1.output, by omega, fun j hj _ => by rw [hg2.block j (by omega) (by simp; omega), hg1.block j hj (by simp)]⟩
theorem textP : TlC Tryz.prog 75 8 0 := by
 refine ⟨by kernel_rfl, fun B w d c T hr hB hT => ?_⟩
 have hT' : (d = .lit (.pointer none) ∧ T = nullT) ∨ (∃ s, d = .ptr (.lit (strV s)) ∧ T = textT s) := hT
 rcases hT' with ⟨rfl, rfl⟩ | ⟨s, rfl, rfl⟩
 ·simp only [Rep, List.cons.injEq, and_true] at hr
  subst hr
  refine enter (vs := [.pointer none]) Tryz.func75 rfl Tryz.ntmps75 rfl ?_
  repeat (with_reducible first|apply wc_seq|apply wc_region)
  refine wl_alloc Impl.zv_tree rfl rfl (fun w1 hb1 hg1 hs1 => ?_)
  repeat first|(with_reducible first|apply wc_seq|apply wc_region|apply wl_nil|apply qk_thn)|((with_reducible apply ws);exact rfl;exact rfl)
  refine wl_ptrNil rfl pt_str rfl ?_
  repeat (with_reducible first|apply wl_nil|apply qk_thn)
  refine wc_yes rfl rfl ?_
  repeat (with_reducible first|apply wc_seq|apply wc_region)
  refine wl_build rfl (cs := flagC true) (by kernel_rfl) rfl ?_
  refine wl_storeBAgg (vs := flagC true) rfl rfl rfl Impl.tz_tree rfl hb1 rfl (fun w2 hb2 hg2 hs2 => ?_)
  repeat (with_reducible first|apply wl_nil|apply qk_thn|apply wc_ret|apply qk_thn_ret)
  refine qk_retCell (cs := flagC true) rfl rfl Impl.ta_tree hb2 ⟨_, nullT, rfl, rep_flagC, .inl ⟨rfl, rfl⟩, ?_⟩
  exact ⟨hg2.os.trans hg1.os, hg2.tape.trans hg1.tape, hg2.output.trans hg1.output, by omega, fun j hj _ => by rw [hg2.block j (by omega) (by simp; omega), hg1.block j hj (by simp)]⟩
 ·simp only [Rep] at hr
  obtain ⟨b, cs', hc, hbB, hcs, hr⟩ := hr
  simp only [List.cons.injEq, and_true] at hc
  subst hc
  subst hr
  have hbB' : b < B := hbB
  refine enter (vs := [.pointer (some ⟨b, 0, none⟩)]) Tryz.func75 rfl Tryz.ntmps75 rfl ?_
  repeat (with_reducible first|apply wc_seq|apply wc_region)
  refine wl_alloc Impl.zv_tree rfl rfl (fun w1 hb1 hg1 hs1 => ?_)
  have hcs1 : CellsAt w1 b 0 [strV s] := hcs.of_block (hg1.block b (by omega) (by simp))
  repeat first|(with_reducible first|apply wc_seq|apply wc_region|apply wl_nil|apply qk_thn)|((with_reducible apply ws);exact rfl;exact rfl)
  refine wl_ptrNil rfl pt_str rfl ?_
  repeat (with_reducible first|apply wl_nil|apply qk_thn)
  refine wc_no rfl rfl ?_
  repeat first|(with_reducible first|apply wc_seq|apply wc_region|apply qk_thn|apply wc_skip)|((with_reducible apply ws);exact rfl;exact rfl)
  refine wl_load rfl to_str rfl (v := strV s) (by have := hcs1.cell (i := 0) (v := strV s) rfl; simpa using this) ?_
  refine wl_does rfl (fun a k => do_toBytes (l0 := w1.heap.size) rfl (k.at_ _ _ rfl) is_str is_bytes (Nat.le_refl _) (fun v w2 hv hrv hc2 => ?_))
  obtain ⟨va, vn, vc, rfl⟩ := hv
  have hs2 := hc2.size
  refine wl_build rfl (cs := [.int .i64 0, .slice va vn vc, .bool false, .slice none 0 0, .slice none 0 0]) (by kernel_rfl) rfl ?_
  have hb2 := hb1.chg hc2 (fun h => h)
  refine wl_storeBAgg (vs := [.int .i64 0, .slice va vn vc, .bool false, .slice none 0 0, .slice none 0 0]) rfl rfl rfl Impl.tz_tree rfl hb2 rfl (fun w3 hb3 hg3 hs3 => ?_)
  repeat (with_reducible first|apply wl_nil|apply qk_thn|apply wc_ret)
  refine qk_retCell (cs := [.int .i64 0, .slice va vn vc, .bool false, .slice none 0 0, .slice none 0 0]) rfl rfl Impl.ta_tree hb3 ⟨_, textT s, rfl, rep_text (hrv.up (fun r hr => ⟨.inr (by rcases hr.1 with h | h; exact absurd h (Nat.not_lt_zero _); omega), by have := hr.2; omega⟩) (fun r hr => hg3.block r hr.2 (by rcases hr.1 with h | h; exact absurd h (Nat.not_lt_zero _); simp; omega))), .inr ⟨s, rfl, rfl⟩, ?_⟩
  refine ⟨hg3.os.trans (hc2.os.trans hg1.os), hg3.tape.trans (hc2.tape.trans hg1.tape), hg3.output.trans (hc2.output.trans hg1.output), by omega, fun j hj _ => ?_⟩
  rw [hg3.block j (by omega) (by simp; omega), hc2.block j (by omega) (fun h => h), hg1.block j hj (by simp)]
theorem octsP : TlC Tryz.prog 129 9 (-1) := by
 refine ⟨by kernel_rfl, fun B w d c T hr hB hT => ?_⟩
 have hT' : ∃ (s : List UInt8) (b : Bool), (T = .mk 0 s b [] [] ∧ s.length ≤ lim) ∧ (d = .sl b (s.map byteD) ∨ (d = .sq (s.map byteD) ∧ (s ≠ [] → b = false))) := hT
 obtain ⟨s, b, ⟨rfl, hlen⟩, hd⟩ := hT'
 have hsq : Sq B w c (s.map byteD) := by
  rcases hd with rfl | ⟨rfl, _⟩
  ·exact sl_sq hr
  ·exact hr
 obtain ⟨ca, cc, rfl, _⟩ := hsq.shape
 have hfl : TellV 9 (-1) d (.mk 0 s ca.isNone [] []) := by
  refine ⟨s, ca.isNone, ⟨rfl, hlen⟩, ?_⟩
  rcases hd with rfl | ⟨rfl, _⟩
  ·simp only [Rep] at hr
   obtain ⟨a', c', e, _, h1, h2⟩ := hr
   simp only [List.cons.injEq, Value.slice.injEq, and_true] at e
   obtain ⟨rfl, _, rfl⟩ := e
   cases b with
   | true => rw [(h1 rfl).1]; exact .inl rfl
   | false => obtain ⟨b', o', cs', ha, _⟩ := h2 rfl; rw [ha]; exact .inl rfl
  ·refine .inr ⟨rfl, fun hne => ?_⟩
   simp only [Rep] at hr
   obtain ⟨a', c', e, _, h2⟩ := hr
   simp only [List.cons.injEq, Value.slice.injEq, and_true] at e
   obtain ⟨rfl, _, rfl⟩ := e
   rcases h2 with h2 | ⟨b', o', cs', ha, _⟩
   ·exact absurd (List.map_eq_nil_iff.1 h2) hne
   ·rw [ha]; rfl
 refine enter (vs := [.slice ca (s.map byteD).length cc]) Tryz.func129 rfl Tryz.ntmps129 rfl ?_
 repeat (with_reducible first|apply wc_seq|apply wc_region)
 refine wl_alloc Impl.zv_tree rfl rfl (fun w1 hb1 hg1 hs1 => ?_)
 have hw1 : Below w.heap.size w w1 := below_of hg1 (Nat.le_refl _) (by simp)
 repeat first|(with_reducible first|apply wc_seq|apply wc_region|apply wl_nil|apply qk_thn)|((with_reducible apply ws);exact rfl;exact rfl)
 refine wl_appSl tb_bytes tb_bytes rfl rfl rfl (hsq.below (hw1.mono hB) (Nat.le_refl _)).bytes (Own.nil w1 w1.heap.size 5) (Nat.le_refl _) (by simpa using hlen) (fun d2 w2 ho2 hg2 => ?_)
 rw [List.nil_append] at ho2
 obtain ⟨da, dc, rfl⟩ := ho2.shape
 have hb2 := hb1.kept hg2.grown (by simp [Value.ownBlock])
 have hs2 := hg2.grown.size
 repeat ((with_reducible apply ws);exact rfl;exact rfl)
 refine wl_sliceNil rfl el_bytes rfl ?_
 refine wl_build rfl (cs := [.int .i64 0, .slice da s.length dc, .bool ca.isNone, .slice none 0 0, .slice none 0 0]) (by kernel_rfl) rfl ?_
 refine wl_storeBAgg (vs := [.int .i64 0, .slice da s.length dc, .bool ca.isNone, .slice none 0 0, .slice none 0 0]) rfl rfl rfl Impl.tz_tree rfl hb2 rfl (fun w3 hb3 hg3 hs3 => ?_)
 repeat (with_reducible first|apply wl_nil|apply qk_thn|apply wc_ret)
 have ho3 := ho2.kept hg3 (by
  cases hob : (Value.slice da s.length dc).ownBlock with
  | none => exact .inl rfl
  | some g => exact .inr (fun e => by have := ho2.ge g hob; simp only [Option.some.injEq] at e; omega))
 refine qk_retCell (cs := [.int .i64 0, .slice da s.length dc, .bool ca.isNone, .slice none 0 0, .slice none 0 0]) rfl rfl Impl.ta_tree hb3 ⟨_, .mk 0 s ca.isNone [] [], rfl, rep_text (own_rep (l0 := w.heap.size) ho3 (by omega)), hfl, ?_⟩
 refine ⟨hg3.os.trans (hg2.grown.os.trans hg1.os), hg3.tape.trans (hg2.grown.tape.trans hg1.tape), hg3.output.trans (hg2.grown.output.trans hg1.output), by omega, fun j hj _ => ?_⟩
 rw [hg3.block j (by omega) (by simp; omega), hg2.grown.block j (by omega) (by simp [Value.ownBlock]), hg1.block j hj (by simp)]
theorem eachP : EachC Tryz.prog 66 := ⟨by kernel_rfl, fun w B b off g bs kvs v S Inv h1 h2 h3 h4 h5 h6 h7 h8 h9 => Ea.fn_eachG w B b off g bs kvs v S Inv h1 h2 h3 h4 h5 h6 h7 h8 h9⟩
theorem es_tagsI : elemSize Tryz.prog 33 = some 2 := by kernel_rfl
theorem fo_tag0 : fieldOff Tryz.prog 81 0 = some 0 := by kernel_rfl
set_option maxHeartbeats 2000000 in
theorem sortP : SoC Tryz.prog 68 := by
 refine ⟨by kernel_rfl, fun w v u hsq hok hmany => ?_⟩
 obtain ⟨ua, uc, rfl, _⟩ := hsq.shape
 rw [List.length_map] at hsq ⊢
 refine enter (vs := [.slice ua u.length uc]) Tryz.func68 rfl Tryz.ntmps68 rfl ?_
 repeat first|(with_reducible first|apply wc_seq|apply wc_region|apply wl_nil|apply qk_thn|apply wc_block)|((with_reducible apply ws);exact rfl;exact rfl)
 refine wc_loop (α := Nat) (fun i => [(6, .int .i64 (i : Int)), (5, .int .i64 (u.length : Int)), (0, .slice ua u.length uc)]) (fun i w' => i ≤ u.length ∧ Chg (fun _ => False) w w') (fun i => u.length - i) 0 ⟨rfl, rfl, rfl, trivial⟩ ⟨Nat.zero_le _, Chg.refl _ _⟩ ?_
 rintro i w1 ⟨hi, hc1⟩
 have hmany' : u.length ≤ 68719476736 := hmany
 repeat first|(with_reducible first|apply wc_seq|apply wc_region|apply wl_nil|apply qk_thn)|((with_reducible apply ws);exact rfl;exact rfl)
 by_cases hlt : i < u.length
 ·refine wc_yes rfl (by simpa using hlt) ?_
  repeat first|(with_reducible first|apply wc_seq|apply wc_region|apply wl_nil|apply qk_thn|apply wc_block|apply wc_skip)|((with_reducible apply ws);exact rfl;exact rfl)
  refine wc_loop (α := Unit) (fun _ => [(6, .int .i64 (i : Int)), (5, .int .i64 (u.length : Int)), (0, .slice ua u.length uc), (3, .int .i64 (i : Int))]) (fun _ w' => Chg (fun _ => False) w w') (fun _ => 0) () ⟨rfl, rfl, rfl, rfl, trivial⟩ hc1 ?_
  rintro _ w2 hc2
  repeat (with_reducible apply wc_seq)
  by_cases h0 : i = 0
  ·subst h0
   refine wc_par [(0, .int .i64 ((0 : Nat) : Int)), (1, .bool false), (2, .bool false), (3, undef), (4, undef), (5, undef), (6, undef), (7, undef), (8, undef), (9, undef), (10, undef), (11, undef), (12, undef), (13, undef), (14, undef), (15, .bool false)] []
    (fun _ w' => Chg (fun _ => False) w w') mixed rfl rfl rfl rfl rfl (by show ([0,1,2,3,4,5,6,7,8,9,10,11,12,13,14,15] : List Nat).Nodup; decide) rfl rfl (by decide) rfl rfl rfl rfl (hc2.trans (chg_drew _ _)) ?_ trivial ?_
   ·intro p hp vals w' hC a k
    simp only [List.mem_cons, List.not_mem_nil, or_false] at hp
    rcases hp with rfl | rfl | rfl | rfl | rfl | rfl | rfl | rfl | rfl | rfl | rfl | rfl | rfl | rfl | rfl | rfl
    ·exact gv rfl rfl (rn_move k rfl)
    ·exact gv rfl rfl ((rn_gtr k rfl rfl).trans rfl)
    ·exact gv rfl rfl (rn_move k rfl)
    iterate 12 (exact gv_no rfl rfl rfl k rfl rfl)
    ·exact gv rfl rfl (rn_pick k rfl rfl)
   ·rintro vals w3 hvl hC
    refine qk_thn ?_
    refine wc_no rfl rfl ?_
    repeat (with_reducible first|apply wc_region|apply qk_thn|apply wc_exit|apply qk_in|apply qk_thn_exit|apply qk_in_exit|apply qk_round_exit)
    refine wl_add rfl rfl rfl (r := ((0 + 1 : Nat) : Int)) (by decide) ?_
    repeat first|(with_reducible apply wl_nil)|((with_reducible apply ws);exact rfl;exact rfl)
    exact qk_round (0 + 1) ⟨rfl, rfl, rfl, trivial⟩ ⟨by omega, hC⟩ (by omega)
  ·have hpos : 0 < i := Nat.pos_of_ne_zero h0
   obtain ⟨b, off, c1, cs, hv, hbB, hcs, hcl, hr⟩ := hsq.get (sz := 2) (i := i) (by intro d hd; obtain ⟨x, _, rfl⟩ := List.mem_map.1 hd; exact tagD_width x) (by simpa using hlt)
   obtain ⟨b2, off2, c2, cs2, hv2, _, hcs2, hcl2, hr2⟩ := hsq.get (sz := 2) (i := i - 1) (by intro d hd; obtain ⟨x, _, rfl⟩ := List.mem_map.1 hd; exact tagD_width x) (by simp; omega)
   rw [hv] at hv2
   simp only [Value.slice.injEq, List.length_map, Option.some.injEq, Addr.mk.injEq, and_true, true_and] at hv hv2
   obtain ⟨rfl, _, rfl⟩ := hv
   obtain ⟨⟨rfl, rfl⟩, rfl⟩ := hv2
   simp only [List.getElem_map] at hr hr2
   obtain ⟨q1, rfl, _⟩ := tag_cells hr
   obtain ⟨q2, rfl, _⟩ := tag_cells hr2
   have hrise : ((u[i - 1]'(by omega)).1 : Nat) < (u[i]).1 := List.pairwise_iff_getElem.1 hok.1 (i - 1) i (by omega) hlt (by omega)
   have hbw : b < w.heap.size := hcs.lt
   refine wc_par [(0, .int .i64 (i : Int)), (1, .bool true), (2, .bool true), (3, .slice (some ⟨b, off, none⟩) u.length uc), (4, .int .i64 (i : Int)), (5, .pointer (some ⟨b, off + i * 2, none⟩)), (6, .pointer (some ⟨b, off + i * 2 + 0, none⟩)), (7, .int .u32 (u[i].1 : Nat)), (8, .slice (some ⟨b, off, none⟩) u.length uc), (9, .int .i64 (i : Int)), (10, .int .i64 ((i - 1 : Nat) : Int)), (11, .pointer (some ⟨b, off + (i - 1) * 2, none⟩)), (12, .pointer (some ⟨b, off + (i - 1) * 2 + 0, none⟩)), (13, .int .u32 ((u[i - 1]'(by omega)).1 : Nat)), (14, .bool false), (15, .bool false)] []
    (fun _ w' => Chg (fun _ => False) w w') mixed rfl rfl rfl rfl rfl (by show ([0,1,2,3,4,5,6,7,8,9,10,11,12,13,14,15] : List Nat).Nodup; decide) rfl rfl (by decide) rfl rfl rfl rfl (hc2.trans (chg_drew _ _)) ?_ trivial ?_
   ·intro p hp vals w' hC a k
    have hck := hcs.chg hC (fun h => h)
    have hck2 := hcs2.chg hC (fun h => h)
    simp only [List.mem_cons, List.not_mem_nil, or_false] at hp
    rcases hp with rfl | rfl | rfl | rfl | rfl | rfl | rfl | rfl | rfl | rfl | rfl | rfl | rfl | rfl | rfl | rfl
    ·exact gv rfl rfl (rn_move k rfl)
    ·exact gv rfl rfl ((rn_gtr k rfl rfl).trans (by rw [show decide ((0 : Int) < (i : Int)) = true from by simp; omega]))
    ·exact gv rfl rfl (rn_move k rfl)
    ·exact gv_yes rfl rfl rfl k rfl rfl (rn_move k rfl)
    ·exact gv_yes rfl rfl rfl k rfl rfl (rn_move k rfl)
    ·exact gv_yes rfl rfl rfl k rfl rfl (rn_indexAddr k rfl rfl es_tagsI hlt)
    ·exact gv_yes rfl rfl rfl k rfl rfl (rn_fieldAddr k rfl fo_tag0)
    ·exact gv_yes rfl rfl rfl k rfl rfl (rn_load k rfl to_u32 (hck.cell (i := 0) rfl))
    ·exact gv_yes rfl rfl rfl k rfl rfl (rn_move k rfl)
    ·exact gv_yes rfl rfl rfl k rfl rfl (rn_move k rfl)
    ·exact gv_yes rfl rfl rfl k rfl rfl (rn_sub k rfl rfl (by rw [IntKind.wrap_i64]; omega))
    ·exact gv_yes rfl rfl rfl k rfl rfl (rn_indexAddr k rfl rfl es_tagsI (by omega))
    ·exact gv_yes rfl rfl rfl k rfl rfl (rn_fieldAddr k rfl fo_tag0)
    ·exact gv_yes rfl rfl rfl k rfl rfl (rn_load k rfl to_u32 (hck2.cell (i := 0) rfl))
    ·exact gv_yes rfl rfl rfl k rfl rfl ((rn_lss k rfl rfl).trans (by rw [show decide (((u[i].1 : Nat) : Int) < (((u[i - 1]'(by omega)).1 : Nat) : Int)) = false from by simp; omega]))
    ·exact gv rfl rfl (rn_pick k rfl rfl)
   ·rintro vals w3 hvl hC
    refine qk_thn ?_
    refine wc_no rfl rfl ?_
    repeat (with_reducible first|apply wc_region|apply qk_thn|apply wc_exit|apply qk_in|apply qk_thn_exit|apply qk_in_exit|apply qk_round_exit)
    refine wl_add rfl rfl rfl (r := ((i + 1 : Nat) : Int)) (by rw [IntKind.wrap_i64]; omega) ?_
    repeat first|(with_reducible apply wl_nil)|((with_reducible apply ws);exact rfl;exact rfl)
    exact qk_round (i + 1) ⟨rfl, rfl, rfl, trivial⟩ ⟨by omega, hC⟩ (by omega)
 ·refine wc_no rfl (by simpa using hlt) ?_
  repeat (with_reducible first|apply wc_exit|apply qk_thn_exit|apply qk_in_exit|apply qk_round_exit)
  exact qk_end0 rfl ⟨rfl, hc1⟩
end Go.Proofs.YtlmnaffhadeolaaGreatDoor.Tlk

namespace Go.Proofs.YtlmnaffhadeolaaGreatDoor
open Go Go.RowKit
theorem endR_out {flex : Bool} {off : Nat} {a r : List Ra} (h : endR flex off a = some r) : (flex = true ∧ a = .tags off :: r) ∨ (flex = false ∧ a = r) := by
 unfold endR at h
 cases flex with
 | false => simp only [Bool.false_eq_true, if_false, Option.some.injEq] at h; exact .inr ⟨rfl, h⟩
 | true =>
  simp only [if_true] at h
  split at h
  ·rename_i o r'
   cases hb : Nat.beq o off with
   | false => rw [hb] at h; cases h
   | true =>
    rw [hb] at h
    simp only [cond_true, Option.some.injEq] at h
    subst h
    rw [beq_out hb]
    exact .inl ⟨rfl, rfl⟩
  ·cases h
theorem isEnd_out {flex : Bool} {off : Nat} {a : List Ra} (h : isEnd flex off a = true) : endR flex off a = some [] := by
 unfold isEnd at h
 split at h
 ·assumption
 ·cases h
theorem isPrim_out {p : Rp} {a : List Ra} (h : isPrim p a = true) : a = [.prim p 0] := by
 unfold isPrim at h
 split at h
 ·rw [rpEq_out h]
 ·cases h
def Reads (_ver : Int) (_tg _flex : Bool) (sh : List Ck) (H : List D → Prop) (a r : List Ra) (off : Nat) (ys : List UInt8) : Prop :=
 ∀ (pre mid post : List D) (s : List UInt8), shDs mid = sh → unit pre → unit mid → D.widths pre = off →
  ∃ new new', rdAs a (pre ++ mid ++ post) (ys ++ s) = rdAs r (pre ++ new ++ post) s ∧ shDs new = sh ∧ unit new ∧ H new' ∧ shDs new' = sh ∧ pos new' ∧ Imp new new'
theorem Reads.weak {ver : Int} {tg flex : Bool} {sh : List Ck} {H H' : List D → Prop} {a r : List Ra} {off : Nat} {ys : List UInt8} (h : Reads ver tg flex sh H a r off ys) (k : ∀ ds, H ds → H' ds) : Reads ver tg flex sh H' a r off ys := by
 intro pre mid post s hsh hpre hmid hw
 obtain ⟨n1, n1', e1, e2, e3, e4, e5⟩ := h pre mid post s hsh hpre hmid hw
 exact ⟨n1, n1', e1, e2, e3, k _ e4, e5⟩
theorem unit_lits (l : List Value) : unit (litsD l) := by
 intro d hd
 simp only [litsD, List.mem_map] at hd
 obtain ⟨u, _, rfl⟩ := hd
 rfl
end Go.Proofs.YtlmnaffhadeolaaGreatDoor

namespace Go.Proofs.YtlmnaffhadeolaaGreatDoor
open Go Go.RowKit
end Go.Proofs.YtlmnaffhadeolaaGreatDoor

namespace Go.Proofs.YtlmnaffhadeolaaGreatDoor
open Go Go.RowKit
def HzU (tg flex : Bool) (t : Tree) (b : List D) : Prop := if tg then b = [tagsK (if flex then t.u else [])] else b = []
mutual
def HzF (ver : Int) (tg flex : Bool) : Fld → Tree → List D → Prop
  | .mk kind _ _ nul _ _ of sub, t, ds =>
    if kind = 11 then ∃ d, ds = [d] ∧ HoldS ver nul t (fun els =>
      (if of = 10 then ∀ i, i < t.l.length → ∃ a b, els[i]? = some (.agg (a ++ b)) ∧ HzFs ver tg flex sub 0 (att t i) a ∧ HzU tg flex (att t i) b
       else els = t.l.map (valK of (-1)))) d
    else if kind = 10 then ∃ a b, ds = a ++ b ∧ HzFs ver tg flex sub 0 t a ∧ HzU tg flex t b
    else ∃ d, ds = [d] ∧ HoldV ver kind nul t d
def HzFs (ver : Int) (tg flex : Bool) : List Fld → Nat → Tree → List D → Prop
  | [], _, _, ds => ds = []
  | f :: fs, i, t, ds => ∃ a b, ds = a ++ b ∧ shDs a = shF tg f ∧ pos a ∧ (if f.has ver = true then HzF ver tg flex f (att t i) a else a = dfF tg f) ∧ HzFs ver tg flex fs (i + 1) t b
end
def HzP (ver : Int) (tg flex : Bool) (fs : List Fld) (t : Tree) (ds : List D) : Prop := ∃ a b, ds = a ++ b ∧ HzFs ver tg flex fs 0 t a ∧ HzU tg flex t b
theorem HzF_mk (ver : Int) (tg flex : Bool) (kind fr upto nul tag df of : Int) (sub : List Fld) (t : Tree) (ds : List D) : HzF ver tg flex (.mk kind fr upto nul tag df of sub) t ds ↔
    if kind = 11 then ∃ d, ds = [d] ∧ HoldS ver nul t (fun els => if of = 10 then ∀ i, i < t.l.length → ∃ ps, els[i]? = some (.agg ps) ∧ HzP ver tg flex sub (att t i) ps else els = t.l.map (valK of (-1))) d
    else if kind = 10 then HzP ver tg flex sub t ds
    else ∃ d, ds = [d] ∧ HoldV ver kind nul t d := by
  simp only [HzF, HzP]
  by_cases h11 : kind = 11
  · simp only [h11, if_true]
    by_cases h10 : of = 10
    · simp only [h10, if_true]
      have e : ∀ els : List D, (∀ i, i < t.l.length → ∃ a b, els[i]? = some (.agg (a ++ b)) ∧ HzFs ver tg flex sub 0 (att t i) a ∧ HzU tg flex (att t i) b) ↔ (∀ i, i < t.l.length → ∃ ps, els[i]? = some (.agg ps) ∧ ∃ a b, ps = a ++ b ∧ HzFs ver tg flex sub 0 (att t i) a ∧ HzU tg flex (att t i) b) := by
        intro els
        constructor
        · intro h i hi
          obtain ⟨a, b, k1, k2, k3⟩ := h i hi
          exact ⟨a ++ b, k1, a, b, rfl, k2, k3⟩
        · intro h i hi
          obtain ⟨ps, k1, a, b, rfl, k2, k3⟩ := h i hi
          exact ⟨a, b, k1, k2, k3⟩
      simp only [e]
    · simp only [h10, if_false]
  · simp only [h11, if_false]
def ziE : Value → Value → Bool
  | .int k n, .int l m => decide (k = l) && decide (n = m)
  | .bool a, .bool b => a == b
  | .string a, .string b => decide (a.data.toList = b.data.toList)
  | .pointer none, .pointer none => true
  | .slice none 0 0, .slice none 0 0 => true
  | .map none, .map none => true
  | _, _ => false
theorem ziE_out {a b : Value} (h : ziE a b = true) : a = b := by
  unfold ziE at h
  split at h
  · simp only [Bool.and_eq_true, decide_eq_true_eq] at h; rw [h.1, h.2]
  · simp only [beq_iff_eq] at h; rw [h]
  · simp only [decide_eq_true_eq] at h
    rename_i x y
    have : x.data = y.data := Array.ext' h
    cases x; cases y; simp only at this; rw [this]
  · rfl
  · rfl
  · rfl
  · cases h
def ziEs : List Value → List Value → Bool
  | [], [] => true
  | a :: r, b :: s => ziE a b && ziEs r s
  | _, _ => false
theorem ziEs_out : ∀ {a b : List Value}, ziEs a b = true → a = b
  | [], [], _ => rfl
  | a :: r, b :: s, h => by
    simp only [ziEs, Bool.and_eq_true] at h
    rw [ziE_out h.1, ziEs_out h.2]
  | [], _ :: _, h => by cases h
  | _ :: _, [], h => by cases h
def ZmU (tg : Bool) (y : List D) : Prop := tg = true → y = [.lit (.map none)]
mutual
def ZmF (ver : Int) (tg : Bool) : Fld → List D → Prop
  | .mk kind _ _ _ _ _ _ sub, mid => if kind = 10 then ∃ x y, mid = x ++ y ∧ shDs x = shFs tg sub ∧ ZmFs ver tg sub x ∧ ZmU tg y else True
def ZmFs (ver : Int) (tg : Bool) : List Fld → List D → Prop
  | [], _ => True
  | f :: fs, mid => ∃ x y, mid = x ++ y ∧ shDs x = shF tg f ∧ (if f.has ver = true then ZmF ver tg f x else x = litsD (ziF tg f)) ∧ ZmFs ver tg fs y
end
def ZmP (ver : Int) (tg : Bool) (fs : List Fld) (mid : List D) : Prop := ∃ x y, mid = x ++ y ∧ shDs x = shFs tg fs ∧ ZmFs ver tg fs x ∧ ZmU tg y
mutual
def zbF (ver : Int) (tg : Bool) : Fld → List Value → Bool
  | .mk kind _ _ _ _ _ _ sub, vs => if kind = 10 then zbFs ver tg sub (vs.take (shFs tg sub).length) && (!tg || ziEs (vs.drop (shFs tg sub).length) [.map none]) else true
def zbFs (ver : Int) (tg : Bool) : List Fld → List Value → Bool
  | [], _ => true
  | f :: fs, vs => (if f.has ver then zbF ver tg f (vs.take (shF tg f).length) else ziEs (vs.take (shF tg f).length) (ziF tg f)) && zbFs ver tg fs (vs.drop (shF tg f).length)
end
def zbP (ver : Int) (tg : Bool) (fs : List Fld) (vs : List Value) : Bool := zbFs ver tg fs (vs.take (shFs tg fs).length) && (!tg || ziEs (vs.drop (shFs tg fs).length) [.map none])
theorem lits_split {vs : List Value} {x y : List Ck} (h : shDs (litsD vs) = x ++ y) : shDs (litsD (vs.take x.length)) = x ∧ shDs (litsD (vs.drop x.length)) = y ∧ litsD vs = litsD (vs.take x.length) ++ litsD (vs.drop x.length) := by
  have e : litsD vs = litsD (vs.take x.length) ++ litsD (vs.drop x.length) := by
    unfold litsD; rw [← List.map_append, List.take_append_drop]
  have hu : ∀ l : List Value, (shDs (litsD l)).length = l.length := fun l => by rw [unit_len (unit_lits l)]; simp [litsD]
  have hl : x.length ≤ vs.length := by rw [← hu vs, h]; simp
  rw [e, shDs_append] at h
  have h2 := List.append_inj h (by rw [hu]; simp; omega)
  exact ⟨h2.1, h2.2, e⟩
mutual
theorem zbF_out {ver : Int} {tg : Bool} : ∀ {f : Fld} {vs : List Value}, noPt f = true → zbF ver tg f vs = true → shDs (litsD vs) = shF tg f → ZmF ver tg f (litsD vs)
  | .mk kind fr upto nul tag df of sub, vs, hn, h, hs => by
    simp only [noPt, Bool.and_eq_true, Bool.or_eq_true, Bool.not_eq_true', decide_eq_true_eq, decide_eq_false_iff_not] at hn
    simp only [zbF] at h
    simp only [ZmF]
    by_cases h10 : kind = 10
    · simp only [h10, if_true, Bool.and_eq_true, Bool.or_eq_true, Bool.not_eq_true'] at h ⊢
      have hnn : ¬ 0 ≤ nul := by omega
      have hs' : shDs (litsD vs) = shFs tg sub ++ (if tg then [.mp] else []) := by rw [hs]; simp [shF, h10, hnn]
      obtain ⟨k1, k2, k3⟩ := lits_split hs'
      refine ⟨_, _, k3, k1, zbFs_out hn.2 h.1 k1, fun ht => ?_⟩
      rcases h.2 with h2 | h2
      · rw [ht] at h2; cases h2
      · rw [ziEs_out h2]; rfl
    · simp only [h10, if_false]
theorem zbFs_out {ver : Int} {tg : Bool} : ∀ {fs : List Fld} {vs : List Value}, noPts fs = true → zbFs ver tg fs vs = true → shDs (litsD vs) = shFs tg fs → ZmFs ver tg fs (litsD vs)
  | [], _, _, _, _ => by simp only [ZmFs]
  | f :: fs, vs, hn, h, hs => by
    simp only [noPts, Bool.and_eq_true] at hn
    simp only [zbFs, Bool.and_eq_true] at h
    simp only [shFs] at hs
    obtain ⟨k1, k2, k3⟩ := lits_split hs
    simp only [ZmFs]
    refine ⟨_, _, k3, k1, ?_, zbFs_out hn.2 h.2 k2⟩
    by_cases hx : f.has ver = true
    · rw [if_pos hx]; rw [if_pos hx] at h; exact zbF_out hn.1 h.1 k1
    · rw [if_neg hx]; rw [if_neg hx] at h; rw [ziEs_out h.1]
end
theorem zbP_out {ver : Int} {tg : Bool} {fs : List Fld} {vs : List Value} (hn : noPts fs = true) (h : zbP ver tg fs vs = true) (hs : shDs (litsD vs) = shP tg fs) : ZmP ver tg fs (litsD vs) := by
  unfold zbP at h
  simp only [Bool.and_eq_true, Bool.or_eq_true, Bool.not_eq_true'] at h
  obtain ⟨k1, k2, k3⟩ := lits_split hs
  refine ⟨_, _, k3, k1, zbFs_out hn h.1 k1, fun ht => ?_⟩
  rcases h.2 with h2 | h2
  · rw [ht] at h2; cases h2
  · rw [ziEs_out h2]; rfl
mutual
def mFz (ver : Int) (tg flex : Bool) (off : Nat) : Fld → List Ra → Option (List Ra)
  | .mk kind _ _ nul _ _ of sub, ra =>
    if kind = 11 then (match ra with
      | .row c nb o st dfl body :: r =>
        bif (c == flex) && (nb == decide (0 ≤ nul ∧ nul ≤ ver)) && Nat.beq o off && (st == decide (of = 10)) && decide (shDs (litsD dfl) = shE tg of sub) && (if of = 10 then noPts sub && zbP ver tg sub dfl else true) &&
          (if of = 10 then (flex || ne1 ver sub) && endsO flex (shFs tg sub).length (mFsz ver tg flex 0 sub body) else isPrim (rpV of (-1) ver flex) body) then some r else none
      | _ => none)
    else if kind = 10 then (if 0 ≤ nul then none else match mFsz ver tg flex off sub ra with | some r => endR flex (off + (shFs tg sub).length) r | none => none)
    else (match ra with
      | .prim p o :: r => bif rpEq p (rpV kind nul ver flex) && Nat.beq o off then some r else none
      | _ => none)
def mFsz (ver : Int) (tg flex : Bool) (off : Nat) : List Fld → List Ra → Option (List Ra)
  | [], ra => some ra
  | f :: fs, ra => match (if f.has ver then mFz ver tg flex off f ra else some ra) with
    | some r => mFsz ver tg flex (off + (shF tg f).length) fs r
    | none => none
end
def mPz (ver : Int) (tg flex : Bool) (off : Nat) (fs : List Fld) (ra : List Ra) : Option (List Ra) := match mFsz ver tg flex off fs ra with
  | some r => endR flex (off + (shFs tg fs).length) r
  | none => none
def ReadsZ (sh : List Ck) (Z H : List D → Prop) (a r : List Ra) (off : Nat) (ys : List UInt8) : Prop :=
  ∀ (pre mid post : List D) (s : List UInt8), shDs mid = sh → Z mid → unit pre → unit mid → D.widths pre = off →
    ∃ new new', rdAs a (pre ++ mid ++ post) (ys ++ s) = rdAs r (pre ++ new ++ post) s ∧ shDs new = sh ∧ unit new ∧ H new' ∧ shDs new' = sh ∧ pos new' ∧ Imp new new'
theorem readsZ_tags {tg flex : Bool} (htg : flex = true → tg = true) {a r : List Ra} {off : Nat} {t : Tree} {fs : List Fld} (h : endR flex off a = some r) (hu : FitU fs t) :
    ReadsZ (if tg then [.mp] else []) (ZmU tg) (HzU tg flex t) a r off (if flex then uvar t.u.length ++ t.u.flatMap (fun kv => wTag kv.1 kv.2) else []) := by
  intro pre mid post s hsh hz hpre hmid hw
  rcases endR_out h with ⟨rfl, rfl⟩ | ⟨rfl, rfl⟩
  · have := htg rfl
    subst this
    simp only [if_true] at hsh ⊢
    have hr : Rising t.u := by rw [← hu.1]; exact unknown_rising _ _
    refine ⟨[tagsK t.u], [tagsK t.u], ?_, by simp [shDs, tagsK, shD], fun d hd => by simp at hd; subst hd; rfl, by simp [HzU], by simp [shDs, tagsK, shD], fun d hd => by simp at hd; subst hd; simp [tagsK, D.width], Imp.refl _⟩
    simp only [rdAs, rdA]
    rw [tagsP_ok t.u s hr hu.2.1 hu.2.2]
    simp only [Option.bind_some]
    subst hw
    rw [putD_in (unit_pos hpre) (unit_pos hmid) (by rw [hsh]; simp [shDs, tagsK, shD])]
    rfl
  · cases tg with
    | false =>
      simp only [Bool.false_eq_true, if_false] at hsh ⊢
      have : mid = [] := by
        have := unit_len hmid
        rw [hsh] at this
        exact List.length_eq_zero_iff.1 this.symm
      subst this
      exact ⟨[], [], by simp, rfl, hmid, by simp [HzU], rfl, fun d hd => by (cases hd), Imp.refl _⟩
    | true =>
      have hm := hz rfl
      subst hm
      refine ⟨[.lit (.map none)], [tagsK []], by simp, hsh, hmid, by simp [HzU], by simp [shDs, tagsK, shD], fun d hd => by rw [List.mem_singleton] at hd; subst hd; exact Nat.one_pos, imp_nilMp⟩
theorem readsZ_app {sh1 sh2 : List Ck} {Z1 Z2 H1 H2 : List D → Prop} {a b r : List Ra} {off : Nat} {y1 y2 : List UInt8} (h1 : ReadsZ sh1 Z1 H1 a b off y1) (h2 : ReadsZ sh2 Z2 H2 b r (off + sh1.length) y2) :
    ReadsZ (sh1 ++ sh2) (fun mid => ∃ x y, mid = x ++ y ∧ shDs x = sh1 ∧ Z1 x ∧ Z2 y) (fun ds => ∃ x y, ds = x ++ y ∧ H1 x ∧ H2 y ∧ shDs x = sh1 ∧ pos x) a r off (y1 ++ y2) := by
  rintro pre mid post s hsh ⟨m1, m2, rfl, k1, z1, z2⟩ hpre hmid hw
  have k2 : shDs m2 = sh2 := by rw [shDs_append, k1] at hsh; exact List.append_cancel_left hsh
  have u1 : unit m1 := fun d hd => hmid d (by simp [hd])
  have u2 : unit m2 := fun d hd => hmid d (by simp [hd])
  obtain ⟨n1, n1', e1, e2, e3, e4, e5, e6, e7⟩ := h1 pre m1 (m2 ++ post) (y2 ++ s) k1 z1 hpre u1 hw
  obtain ⟨n2, n2', g1, g2, g3, g4, g5, g6, g7⟩ := h2 (pre ++ n1) m2 post s k2 z2 (unit_app hpre e3) u2 (by rw [widths_append, hw, ← shs_width, e2])
  refine ⟨n1 ++ n2, n1' ++ n2', ?_, by rw [shDs_append, e2, g2], unit_app e3 g3, ⟨n1', n2', rfl, e4, g4, e5, e6⟩, by rw [shDs_append, e5, g5], pos_append e6 g6, Imp.app e7 g7⟩
  have a1 : pre ++ (m1 ++ m2) ++ post = pre ++ m1 ++ (m2 ++ post) := by simp [List.append_assoc]
  have a2 : pre ++ n1 ++ (m2 ++ post) = pre ++ n1 ++ m2 ++ post := by simp [List.append_assoc]
  have a3 : pre ++ (n1 ++ n2) ++ post = pre ++ n1 ++ n2 ++ post := by simp [List.append_assoc]
  rw [a1, List.append_assoc y1, e1, a2, g1, a3]
theorem ReadsZ.weak {sh : List Ck} {Z Z' H H' : List D → Prop} {a r : List Ra} {off : Nat} {ys : List UInt8} (h : ReadsZ sh Z H a r off ys) (z : ∀ ds, Z' ds → Z ds) (k : ∀ ds, H ds → H' ds) : ReadsZ sh Z' H' a r off ys := by
  intro pre mid post s hsh hz hpre hmid hw
  obtain ⟨n1, n1', e1, e2, e3, e4, e5⟩ := h pre mid post s hsh (z _ hz) hpre hmid hw
  exact ⟨n1, n1', e1, e2, e3, k _ e4, e5⟩
theorem readsZ_part {ver : Int} {tg flex : Bool} (htg : flex = true → tg = true) {a b r : List Ra} {off : Nat} {t : Tree} {fs : List Fld} (h1 : ReadsZ (shFs tg fs) (ZmFs ver tg fs) (HzFs ver tg flex fs 0 t) a b off (wFs ver flex fs 0 t)) (h : endR flex (off + (shFs tg fs).length) b = some r) (hf : FitT ver fs t) :
    ReadsZ (shP tg fs) (ZmP ver tg fs) (HzP ver tg flex fs t) a r off (wPart ver flex fs t) := by
  have e : wPart ver flex fs t = wFs ver flex fs 0 t ++ (if flex then uvar t.u.length ++ t.u.flatMap (fun kv => wTag kv.1 kv.2) else []) := by
    unfold wPart
    rw [allTagsK_eq hf.1 hf.2]
    cases flex <;> simp [asm]
  rw [e]
  exact (readsZ_app h1 (readsZ_tags htg h hf.2)).weak (fun _ h => h) (fun ds ⟨x, y, e1, e2, e3, _⟩ => ⟨x, y, e1, e2, e3⟩)
mutual
theorem mFz_ok (ver : Int) (tg flex : Bool) (htg : flex = true → tg = true) : ∀ (f : Fld) (a r : List Ra) (off : Nat), noPt f = true → mFz ver tg flex off f a = some r → ∀ t, FitF ver f t → ReadsZ (shF tg f) (ZmF ver tg f) (HzF ver tg flex f t) a r off (wField ver flex f t)
  | .mk kind fr upto nul tag df of sub, a, r, off, hno, h, t, hfit => by
    have hns : noPts sub = true := by simp only [noPt, Bool.and_eq_true] at hno; exact hno.2
    have hM : Most = 32767 := rfl
    simp only [mFz] at h
    simp only [FitF] at hfit
    obtain ⟨hnul, hfit⟩ := hfit
    have hH : ∀ ds, HzF ver tg flex (.mk kind fr upto nul tag df of sub) t ds ↔ _ := fun ds => HzF_mk ver tg flex kind fr upto nul tag df of sub t ds
    rw [wField_mk ver flex kind fr upto nul tag df of sub t _ rfl]
    by_cases h11 : kind = 11
    · simp only [h11, if_true] at h hfit hH ⊢
      obtain ⟨hlen, hst, hpr⟩ := hfit
      have hth := things_of hlen
      split at h
      · rename_i c nb o st dfl body rr
        cases hc : (c == flex) && (nb == decide (0 ≤ nul ∧ nul ≤ ver)) && Nat.beq o off && (st == decide (of = 10)) && decide (shDs (litsD dfl) = shE tg of sub) && (if of = 10 then noPts sub && zbP ver tg sub dfl else true) &&
          (if of = 10 then (flex || ne1 ver sub) && endsO flex (shFs tg sub).length (mFsz ver tg flex 0 sub body) else isPrim (rpV of (-1) ver flex) body) with
        | false => rw [hc] at h; cases h
        | true =>
          rw [hc] at h
          simp only [cond_true, Option.some.injEq] at h
          subst h
          simp only [Bool.and_eq_true, beq_iff_eq, decide_eq_true_eq] at hc
          obtain ⟨⟨⟨⟨⟨⟨g1, g2⟩, g3⟩, g4⟩, g5⟩, gz⟩, g6⟩ := hc
          subst g1
          have := beq_out g3; subst this
          have hel : ∀ s, ∃ dss els, rdRow body (litsD dfl) t.l.length (t.l.flatMap (wVal of c false (wPart ver c sub)) ++ s) = some (dss, s) ∧ dss.length = t.l.length ∧ els.length = t.l.length ∧ Imp (dss.map (elD st)) els ∧
              (if of = 10 then ∀ i, i < t.l.length → ∃ ps, els[i]? = some (.agg ps) ∧ HzP ver tg c sub (att t i) ps else els = t.l.map (valK of (-1))) := by
            intro s
            by_cases h10 : of = 10
            · simp only [h10, if_true, decide_true, Bool.and_eq_true] at g4 g5 g6 gz ⊢
              subst g4
              obtain ⟨g6, g7⟩ := g6
              unfold endsO at g7
              split at g7
              · rename_i r' hr'
                have hend := isEnd_out g7
                rw [show wVal 10 c false (wPart ver c sub) = wPart ver c sub from funext fun x => by simp [wVal]]
                obtain ⟨dss, e1, e2, e3⟩ := rdRow_ok body (litsD dfl) (wPart ver c sub) (fun x nd => ∃ nd', HzP ver tg c sub x nd' ∧ Imp nd nd') t.l (fun x hx s => by
                  obtain ⟨hf, hu⟩ := hst h10 x hx
                  have hR := readsZ_part (off := 0) htg (mFsz_ok ver tg c htg sub body r' 0 hns hr' 0 x hf) (by rw [Nat.zero_add]; exact hend) ⟨hf, hu⟩
                  obtain ⟨new, new', k1, k2, k3, k4, k5, k6, k7⟩ := hR [] (litsD dfl) [] s (by rw [g5]; simp [shE]) (zbP_out gz.1 gz.2 (by rw [g5]; simp [shE])) (fun d hd => by cases hd) (unit_lits _) rfl
                  simp only [List.nil_append, List.append_nil, rdAs] at k1
                  exact ⟨new, k1, new', k4, k7⟩) s
                have hch : ∀ i (hi : i < t.l.length), ∃ ps, HzP ver tg c sub t.l[i] ps ∧ ∃ nd, dss[i]? = some nd ∧ Imp nd ps := by
                  intro i hi
                  obtain ⟨nd, k1, nd', k2, k3⟩ := e3 i hi
                  exact ⟨nd', k2, nd, k1, k3⟩
                let g : Nat → List D := fun i => if hi : i < t.l.length then Classical.choose (hch i hi) else []
                have hg : ∀ i (hi : i < t.l.length), HzP ver tg c sub t.l[i] (g i) ∧ ∃ nd, dss[i]? = some nd ∧ Imp nd (g i) := by
                  intro i hi
                  simp only [g, dif_pos hi]
                  exact Classical.choose_spec (hch i hi)
                refine ⟨dss, (List.range t.l.length).map (fun i => .agg (g i)), e1, e2, by simp, ?_, fun i hi => ⟨g i, by simp [hi], by rw [att_get hi]; exact (hg i hi).1⟩⟩
                refine imp_list (by simp [e2]) (fun i x y hx hy => ?_)
                simp only [List.getElem?_map, Option.map_eq_some_iff] at hx hy
                obtain ⟨nd, hnd, rfl⟩ := hx
                obtain ⟨j, hj, rfl⟩ := hy
                have hi : i < t.l.length := by rw [← e2]; exact (List.getElem?_eq_some_iff.1 hnd).1
                have hji : j = i := by
                  rw [List.getElem?_range hi] at hj
                  simpa using hj.symm
                subst hji
                obtain ⟨_, nd', hnd', him⟩ := hg j hi
                rw [hnd] at hnd'
                simp only [Option.some.injEq] at hnd'
                subst hnd'
                simp only [elD, if_true]
                refine Imp.one (fun ok w cs hr => ?_)
                simp only [Rep] at hr ⊢
                exact him ok w cs hr
              · cases g7
            · simp only [h10, if_false, decide_false] at g4 g5 g6 ⊢
              subst g4
              obtain ⟨⟨h11', h7⟩, hv⟩ := hpr h10
              have hb := isPrim_out g6
              subst hb
              obtain ⟨dss, e1, e2, e3⟩ := rdRow_ok [.prim (rpV of (-1) ver c) 0] (litsD dfl) (wVal of c false (wPart ver c sub)) (fun x nd => ∃ e, nd = [e] ∧ Imp [e] [valK of (-1) x]) t.l (fun x hx s => by
                obtain ⟨nd, d, k1, k2, k3, k4, k5, k6⟩ := rdP_ok of (-1) ver c x (wPart ver c sub) s (hv x hx) (by omega) h10
                have hd : d = valK of (-1) x ∨ of = 9 := by
                  unfold HoldV at k4
                  split at k4
                  · rename_i hh; exact .inr hh.1
                  · exact .inl k4
                have hnd := k6 h7
                simp only [rdAs_one, rdA]
                have e : (x.nul && decide ((0 : Int) ≤ -1) && decide ((-1 : Int) ≤ ver)) = false := by simp
                rw [e] at k1
                rw [k1]
                simp only [Option.bind_some]
                have hput := putD_in (a := []) (m := litsD dfl) (b := []) (new := nd) (fun d hd => by cases hd) (unit_pos (unit_lits _)) (by rw [g5, k2]; simp [shE, h10])
                simp only [D.widths, List.nil_append, List.append_nil] at hput
                rw [hput]
                refine ⟨nd, rfl, ?_⟩
                rcases hd with hd | hd
                · exact ⟨_, hnd, by rw [hd]; exact Imp.refl _⟩
                · subst hd
                  have : rdP (rpV 9 (-1) ver c) (wVal 9 c false (wPart ver c sub) x ++ s) = some ([.sl false (x.s.map byteD)], s) := by
                    have hs := hv x hx (.inr rfl)
                    have hwh := whole_of hs
                    have er : rpV 9 (-1) ver c = (if c then .cbytes else .bytes) := by simp [rpV]
                    rw [er]
                    cases c
                    · simp only [wVal, counted]
                      simp [rdP, hwh]
                      rw [intP_be .i32 4 32 rfl rfl]
                      have hw : IntKind.i32.wrap (x.s.length : Int) = x.s.length := by rw [IntKind.wrap_i32]; omega
                      simp only [Option.bind_some, hw]
                      rw [if_neg (by omega), spanP_app _ _ _ rfl]; rfl
                    · simp only [wVal, counted]
                      simp [rdP, hwh]
                      rw [uvarP_uvar _ _ (by omega)]
                      simp only [Option.bind_some]
                      rw [if_neg (by omega), spanP_app _ _ _ (by omega)]; rfl
                  rw [this] at k1
                  simp only [Option.some.injEq, Prod.mk.injEq, and_true] at k1
                  refine ⟨_, k1.symm, ?_⟩
                  rw [show valK 9 (-1) x = .sq (x.s.map byteD) by simp [valK]]
                  exact imp_slsq rfl (Imp.refl _)) s
              refine ⟨dss, t.l.map (valK of (-1)), e1, e2, by simp, ?_, rfl⟩
              refine imp_list (by simp [e2]) (fun i x y hx hy => ?_)
              simp only [List.getElem?_map, Option.map_eq_some_iff] at hx hy
              obtain ⟨nd, hnd, rfl⟩ := hx
              obtain ⟨z, hz, rfl⟩ := hy
              have hi : i < t.l.length := (List.getElem?_eq_some_iff.1 hz).1
              obtain ⟨nd', h1, h2⟩ := e3 i hi
              rw [hnd] at h1
              simp only [Option.some.injEq] at h1
              subst h1
              rw [List.getElem?_eq_getElem hi] at hz
              simp only [Option.some.injEq] at hz
              subst hz
              obtain ⟨e, rfl, h2⟩ := h2
              simp only [elD, Bool.false_eq_true, if_false]
              exact h2
          have hpos : ∀ x ∈ t.l, 1 ≤ (wVal of c false (wPart ver c sub) x).length := by
            intro x hx
            by_cases h10 : of = 10
            · simp only [h10, if_true, Bool.and_eq_true] at g6
              have := wPart_pos ver c sub x g6.1
              simpa [h10, wVal] using this
            · exact wVal_pos _ _ _ _ _ h10
          have hfl := flatMap_len (wVal of c false (wPart ver c sub)) t.l hpos
          intro pre mid post s hsh _ hpre hmid hw
          have shx : shF tg (.mk 11 fr upto nul tag df of sub) = [.sl] := by simp [shF]
          rw [shx] at hsh ⊢
          obtain ⟨dss, els, e1, e2, e3, e4, e5⟩ := hel s
          obtain ⟨nulb, hnb⟩ : ∃ nulb, (t.nul && decide (0 ≤ nul) && decide (nul ≤ ver)) = nulb := ⟨_, rfl⟩
          rw [hnb]
          have hput : ∀ d : D, shD d = [.sl] → putD (pre ++ mid ++ post) o [d] = some (pre ++ [d] ++ post) := by
            intro d hd
            subst hw
            exact putD_in (unit_pos hpre) (unit_pos hmid) (by rw [hsh]; simp [shDs, hd])
          have fin : ∀ d d', rowP c nb st dfl body ((counted c nulb (if nulb then [] else things t.l).length 4 ++ (if nulb then [] else things t.l).flatMap (wVal of c false (wPart ver c sub))) ++ s) = some (d, s) → shD d = [.sl] → shD d' = [.sl] → d.width = 1 → d'.width = 1 → HzF ver tg c (.mk 11 fr upto nul tag df of sub) t [d'] → Imp [d] [d'] →
              ∃ new new', rdAs (.row c nb o st dfl body :: rr) (pre ++ mid ++ post) ((counted c nulb (if nulb then [] else things t.l).length 4 ++ (if nulb then [] else things t.l).flatMap (wVal of c false (wPart ver c sub))) ++ s) = rdAs rr (pre ++ new ++ post) s ∧ shDs new = [.sl] ∧ unit new ∧ HzF ver tg c (.mk 11 fr upto nul tag df of sub) t new' ∧ shDs new' = [.sl] ∧ pos new' ∧ Imp new new' := by
            intro d d' k1 k2 k3 k4 k5 k6 k7
            refine ⟨[d], [d'], ?_, by simp [shDs, k2], fun x hx => by simp at hx; subst hx; exact k4, k6, by simp [shDs, k3], fun x hx => by simp at hx; subst hx; rw [k5]; omega, k7⟩
            simp only [rdAs]
            rw [rdA_row, k1]
            simp only [Option.bind_some]
            rw [hput d k2]
            rfl
          cases nulb with
          | true =>
            simp only [Bool.and_eq_true, decide_eq_true_eq] at hnb
            have hnbt : nb = true := by rw [g2]; simp [hnb.1.2, hnb.2]
            refine fin (.sl true []) (.sl true []) ?_ rfl rfl rfl rfl ((hH _).2 ⟨_, rfl, .inl ⟨hnb.1.2, hnb.1.1, rfl⟩⟩) (Imp.refl _)
            simp only [if_true, List.length_nil, List.flatMap_nil, List.append_nil]
            rw [rowP, lenP_ok c true 0 s (by omega) (.inl rfl)]
            simp [rdRow, hnbt]
          | false =>
            have hnn : ¬ (0 ≤ nul ∧ t.nul = true) := by
              rintro ⟨a1, a2⟩
              have a3 := hnul a1 a2
              rw [a2] at hnb
              simp [a1, a3] at hnb
            have hrow : rowP c nb st dfl body ((counted c false t.l.length 4 ++ t.l.flatMap (wVal of c false (wPart ver c sub))) ++ s) = some (if nb then .sl false (dss.map (elD st)) else .sl (decide ((t.l.length : Int) ≤ 0)) (dss.map (elD st)), s) := by
              rw [rowP, List.append_assoc, lenP_ok c false t.l.length _ hlen (.inr (by rw [List.length_append]; omega))]
              simp only [Bool.false_eq_true, if_false, Option.bind_some, Int.toNat_natCast]
              rw [e1]
              simp only [Option.map_some]
              rw [if_neg (by omega : ¬ ((t.l.length : Int) < 0))]
            have hlm : (dss.map (elD st)).length = els.length := by simp [e2, e3]
            simp only [Bool.false_eq_true, if_false, hth] at fin ⊢
            cases hnb2 : nb with
            | true =>
              rw [hnb2] at hrow
              rw [hnb2] at fin
              exact fin _ (.sl false els) hrow rfl rfl rfl rfl ((hH _).2 ⟨_, rfl, .inr ⟨hnn, rfl, rfl, false, els, rfl, fun _ _ => rfl, e3, e5⟩⟩) (imp_sl hlm e4)
            | false =>
              rw [hnb2] at hrow g2
              rw [hnb2] at fin
              refine fin _ (.sq els) hrow rfl rfl rfl rfl ((hH _).2 ⟨_, rfl, .inr ⟨hnn, rfl, rfl, false, els, rfl, fun a1 a2 => ?_, e3, e5⟩⟩) (imp_slsq hlm e4)
              simp [a1, a2] at g2
      · cases h
    · simp only [h11, if_false] at h hfit hH ⊢
      by_cases h10 : kind = 10
      · simp only [h10, if_true] at h hfit hH ⊢
        by_cases hn : 0 ≤ nul
        · simp only [hn, if_true] at h
          cases h
        · simp only [hn, if_false, and_false] at h hH ⊢
          split at h
          · rename_i r1 hr1
            have hR := readsZ_part htg (mFsz_ok ver tg flex htg sub a r1 off hns hr1 0 t hfit.1) h hfit
            have es : shF tg (.mk 10 fr upto nul tag df of sub) = shP tg sub := by simp [shF, hn, shP]
            rw [es]
            simp only [wVal]
            exact hR.weak (fun ds hz => by simp only [ZmF, if_true] at hz; exact hz) (fun ds hd => (hH ds).2 hd)
          · cases h
      · simp only [h10, if_false, false_and] at h hfit hH ⊢
        split at h
        · rename_i p o rr
          cases hb : rpEq p (rpV kind nul ver flex) && Nat.beq o off with
          | false => rw [hb] at h; cases h
          | true =>
            rw [hb] at h
            simp only [cond_true, Option.some.injEq] at h
            subst h
            rw [Bool.and_eq_true] at hb
            have := rpEq_out hb.1; subst this
            have := beq_out hb.2; subst this
            have es : shF tg (.mk kind fr upto nul tag df of sub) = shV kind nul := by simp [shF, h11, h10]
            rw [es]
            intro pre mid post s hsh _ hpre hmid hw
            obtain ⟨nd, d, k1, k2, k3, k4, k5, _⟩ := rdP_ok kind nul ver flex t (wPart ver flex sub) s hfit hnul h10
            have hsd : shDs [d] = shV kind nul := by
              unfold HoldV at k4
              split at k4
              · rename_i hh
                rw [hh.1]
                simp [shDs, k4.2.1, shV]
              · rw [k4]; simp only [shDs, List.append_nil, sh_valK]
            refine ⟨nd, [d], ?_, k2, k3, (hH _).2 ⟨d, rfl, k4⟩, hsd, fun x hx => ?_, k5⟩
            · simp only [rdAs, rdA]
              rw [k1]
              simp only [Option.bind_some]
              subst hw
              rw [putD_in (unit_pos hpre) (unit_pos hmid) (by rw [hsh, k2])]
              rfl
            · simp at hx; subst hx
              have h1 : (shDs [x]).length = (shV kind nul).length := by rw [hsd]
              rw [shs_width] at h1
              simp only [D.widths, Nat.add_zero] at h1
              rw [h1]
              unfold shV
              repeat' split
              all_goals simp
        · cases h
theorem mFsz_ok (ver : Int) (tg flex : Bool) (htg : flex = true → tg = true) : ∀ (fs : List Fld) (a r : List Ra) (off : Nat), noPts fs = true → mFsz ver tg flex off fs a = some r → ∀ i t, FitFs ver fs i t → ReadsZ (shFs tg fs) (ZmFs ver tg fs) (HzFs ver tg flex fs i t) a r off (wFs ver flex fs i t)
  | [], a, r, off, _, h, i, t, hfit => by
    simp only [mFsz, Option.some.injEq] at h
    subst h
    intro pre mid post s hsh _ hpre hmid hw
    have : mid = [] := by
      have := unit_len hmid
      rw [hsh] at this
      exact List.length_eq_zero_iff.1 this.symm
    subst this
    exact ⟨[], [], by simp [wFs], rfl, hmid, by simp [HzFs], rfl, (fun d hd => by cases hd), Imp.refl _⟩
  | f :: fs, a, r, off, hno, h, i, t, hfit => by
    simp only [noPts, Bool.and_eq_true] at hno
    simp only [mFsz] at h
    simp only [FitFs] at hfit
    obtain ⟨htag, hff, hrest⟩ := hfit
    split at h
    · rename_i b hb
      have h2 := mFsz_ok ver tg flex htg fs b r (off + (shF tg f).length) hno.2 h (i + 1) t hrest
      have key : ReadsZ (shF tg f) (fun x => if f.has ver = true then ZmF ver tg f x else x = litsD (ziF tg f)) (fun ds => if f.has ver = true then HzF ver tg flex f (att t i) ds else ds = dfF tg f) a b off (if f.tag < 0 ∧ f.has ver = true then wField ver flex f (att t i) else []) := by
        by_cases hx : f.has ver = true
        · rw [if_pos hx] at hb
          rw [if_pos ⟨htag, hx⟩]
          simp only [if_pos hx]
          exact mFz_ok ver tg flex htg f a b off hno.1 hb (att t i) (hff hx)
        · rw [if_neg hx] at hb
          rw [if_neg (fun e => hx e.2)]
          simp only [if_neg hx]
          simp only [Option.some.injEq] at hb
          subst hb
          intro pre mid post s hsh hz hpre hmid hw
          subst hz
          obtain ⟨q1, q2⟩ := shDs_dfF tg f hno.1
          exact ⟨_, dfF tg f, by simp, hsh, hmid, rfl, q1, q2, imp_ziF tg f⟩
      have := readsZ_app key h2
      simp only [wFs, shFs]
      exact this.weak (fun ds hz => by
        simp only [ZmFs] at hz
        exact hz) (fun ds ⟨x, y, e1, e2, e3, e4, e5⟩ => by simp only [HzFs]; exact ⟨x, y, e1, e4, e5, e2, e3⟩)
    · cases h
end
theorem mPz_ok {ver : Int} {tg flex : Bool} (htg : flex = true → tg = true) {fs : List Fld} {a r : List Ra} {off : Nat} (hno : noPts fs = true) (h : mPz ver tg flex off fs a = some r) {t : Tree} (hf : FitT ver fs t) : ReadsZ (shP tg fs) (ZmP ver tg fs) (HzP ver tg flex fs t) a r off (wPart ver flex fs t) := by
  unfold mPz at h
  split at h
  · rename_i b hb
    exact readsZ_part htg (mFsz_ok ver tg flex htg fs a b off hno hb 0 t hf.1) h hf
  · cases h
end Go.Proofs.YtlmnaffhadeolaaGreatDoor

namespace Go.Proofs.YtlmnaffhadeolaaGreatDoor
open Go Go.RowKit
end Go.Proofs.YtlmnaffhadeolaaGreatDoor

namespace Go.Proofs.YtlmnaffhadeolaaGreatDoor
open Go Go.RowKit
mutual
def tabF (ver : Int) : Fld → Bool
 | .mk kind _ _ _ _ _ of sub => (if kind = 11 then (if of = 10 then tabFs ver sub else !decide (of = 11) && !decide (of = 7)) else if kind = 10 then tabFs ver sub else true)
def tabFs (ver : Int) : List Fld → Bool
 | [] => true
 | f :: fs => decide (f.tag < 0) && (!f.has ver || tabF ver f) && tabFs ver fs
end
theorem att_fitL (ver : Int) : ∀ (fs : List Fld) (i0 : Nat) (t t' : Tree) (k : Nat), (∀ j, j < fs.length → att t' (k + j) = (fitL ver fs i0 t).getD j Tree.none) → ∀ j (h : j < fs.length), att t' (k + j) = fitF ver fs[j] (att t (i0 + j)) := by
 intro fs i0 t t' k h j hj
 rw [h j hj, List.getD_eq_getElem?_getD, List.getElem?_eq_getElem (by rw [fitL_length]; exact hj)]
 simp only [Option.getD_some]
 exact fitL_get ver fs i0 t j hj
theorem att_fitP (ver : Int) (fs : List Fld) (t : Tree) (j : Nat) (h : j < fs.length) : att (fitP ver fs t) j = fitF ver fs[j] (att t j) := by
 have := att_fitL ver fs 0 t (fitP ver fs t) 0 (fun j hj => by simp [fitP, att, Tree.l]) j h
 simpa using this
theorem withNull_att (b : Bool) (t : Tree) (i : Nat) : att (t.withNull b) i = att t i := by cases t; rfl
theorem withNull_u (b : Bool) (t : Tree) : (t.withNull b).u = t.u := by cases t; rfl
theorem withNull_nul (b : Bool) (t : Tree) : (t.withNull b).nul = b := by cases t; rfl
theorem wFs_congr (ver : Int) (flex : Bool) : ∀ (fs : List Fld) (i k : Nat) (t t' : Tree), (∀ j (h : j < fs.length), fs[j].has ver = true → wField ver flex fs[j] (att t' (k + j)) = wField ver flex fs[j] (att t (i + j))) → wFs ver flex fs k t' = wFs ver flex fs i t
 | [], _, _, _, _, _ => by simp [wFs]
 | f :: fs, i, k, t, t', h => by
  simp only [wFs]
  have h0 := h 0 (by simp)
  simp only [List.getElem_cons_zero, Nat.add_zero] at h0
  have e : (if f.tag < 0 ∧ f.has ver = true then wField ver flex f (att t' k) else []) = (if f.tag < 0 ∧ f.has ver = true then wField ver flex f (att t i) else []) := by
   split
   ·rename_i hh; rw [h0 hh.2]
   ·rfl
  rw [e]
  congr 1
  exact wFs_congr ver flex fs (i + 1) (k + 1) t t' (fun j hj hh => by
   have := h (j + 1) (by simpa using hj)
   simp only [List.getElem_cons_succ] at this
   rw [show k + 1 + j = k + (j + 1) by omega, show i + 1 + j = i + (j + 1) by omega]
   exact this hh)
theorem known_zero {fs : List Fld} (h : ∀ f ∈ fs, f.tag < 0) : known fs = 0 := known_none fs 0 h
theorem tab_tags {ver : Int} : ∀ {fs : List Fld}, tabFs ver fs = true → ∀ f ∈ fs, f.tag < 0
 | [], _, f, hf => by cases hf
 | g :: fs, h, f, hf => by
  simp only [tabFs, Bool.and_eq_true, decide_eq_true_eq] at h
  rcases List.mem_cons.1 hf with rfl | hm
  ·exact h.1.1
  ·exact tab_tags h.2 f hm
theorem putTag_end (k : Nat) (v : List UInt8) : ∀ (u : List (Nat × List UInt8)), (∀ kv ∈ u, kv.1 < k) → putTag k v u = u ++ [(k, v)]
 | [], _ => rfl
 | x :: u, h => by
  have := h x (by simp)
  simp only [putTag, if_pos this, putTag_end k v u (fun y hy => h y (by simp [hy])), List.cons_append]
theorem fold_rising : ∀ (u acc : List (Nat × List UInt8)), Rising (acc ++ u) → u.foldl (fun out kv => if kv.1 < 0 then out else putTag kv.1 kv.2 out) acc = acc ++ u
 | [], acc, _ => by simp
 | x :: u, acc, h => by
  simp only [List.foldl_cons, Nat.not_lt_zero, if_false]
  rw [putTag_end x.1 x.2 acc (fun kv hkv => (List.pairwise_append.1 h).2.2 kv hkv x (by simp))]
  have ih := fold_rising u (acc ++ [x]) (by simpa [List.append_assoc] using h)
  simp only [Nat.not_lt_zero, if_false] at ih
  rw [ih]; simp
theorem unknown_self {fs : List Fld} {u : List (Nat × List UInt8)} (hk : known fs = 0) (hr : Rising u) (hl : u.length ≤ Most) : unknown fs u = u := by
 unfold unknown
 rw [List.take_of_length_le hl, hk]
 have := fold_rising u [] (by simpa using hr)
 simpa using this
theorem putTag_len (k : Nat) (v : List UInt8) : ∀ (u : List (Nat × List UInt8)), (putTag k v u).length ≤ u.length + 1
 | [] => by simp [putTag]
 | x :: u => by
  simp only [putTag]
  have := putTag_len k v u
  split
  ·simp; omega
  ·split <;> simp
theorem unknownLen (fs : List Fld) (u : List (Nat × List UInt8)) : (unknown fs u).length ≤ Most := by
 unfold unknown
 have : ∀ (l out : List (Nat × List UInt8)), (l.foldl (fun out kv => if kv.1 < known fs then out else putTag kv.1 kv.2 out) out).length ≤ out.length + l.length := by
  intro l
  induction l with
  | nil => intro out; simp
  | cons x l ih =>
   intro out
   simp only [List.foldl_cons, List.length_cons]
   split
   ·have := ih out; omega
   ·have := ih (putTag x.1 x.2 out); have := putTag_len x.1 x.2 out; omega
 have h := this (u.take Most) []
 have : (u.take Most).length ≤ Most := by simp; omega
 simp only [List.length_nil] at h
 omega
theorem whole_whole (s : List UInt8) : whole (whole s) = whole s := by simp [whole, List.take_take]
theorem whole_len (s : List UInt8) : (whole s).length ≤ Most := by simp [whole]; omega
theorem others_rising (fs : List Fld) (u : List (Nat × List UInt8)) : Rising (others fs u) := by
 unfold others Rising
 exact List.pairwise_map.2 (unknown_rising fs u)
theorem others_self {fs : List Fld} (hk : known fs = 0) (u : List (Nat × List UInt8)) : unknown fs (others fs u) = others fs u := unknown_self hk (others_rising fs u) (by simp [others, unknownLen])
theorem allTags_fit {ver : Int} {flex : Bool} {fs : List Fld} (hk : known fs = 0) (t t' : Tree) (h : t'.u = others fs t.u) : allTags ver flex fs t' = allTags ver flex fs t := by
 unfold allTags
 rw [hk, h, others_self hk]
 simp only [List.range_zero, List.flatMap_nil, List.nil_append, others, List.map_map]
 refine List.map_congr_left (fun kv _ => ?_)
 simp [whole_whole]
theorem fitVal_w (kind : Int) (flex : Bool) (p q : Tree → Tree) (wp : Tree → List UInt8) (null : Bool) (t : Tree) (h10 : kind = 10 → wp ((p t).withNull null) = wp t) : wVal kind flex null wp (fitVal kind null p t) = wVal kind flex null wp t := by
 unfold fitVal
 by_cases h8 : kind = 8 ∨ kind = 9
 ·rw [if_pos h8]
  rcases h8 with rfl | rfl <;> simp [wVal, Tree.s, whole_whole]
 ·rw [if_neg h8]
  by_cases h : kind = 10
  ·rw [if_pos h]; subst h; simp only [wVal]; simpa using h10 rfl
  ·rw [if_neg h]
   have h8' : kind ≠ 8 := fun e => h8 (.inl e)
   have h9' : kind ≠ 9 := fun e => h8 (.inr e)
   simp [wVal, h8', h9', h, Tree.n, Tree.s]
theorem fitVal_nul (kind : Int) (null : Bool) (p : Tree → Tree) (t : Tree) (h : kind = 8 ∨ kind = 9 ∨ kind = 10) : (fitVal kind null p t).nul = null := by
 unfold fitVal
 rcases h with rfl | rfl | rfl
 ·simp [Tree.nul]
 ·simp [Tree.nul]
 ·simp [withNull_nul]
theorem fld_null (kind fr upto nul tag df of : Int) (sub : List Fld) (ver : Int) (t : Tree) : (Fld.mk kind fr upto nul tag df of sub).null ver t = (t.nul && decide (0 ≤ nul) && decide (nul ≤ ver)) := rfl
theorem mk_nul (n : Int) (s : List UInt8) (b : Bool) (l : List Tree) (u : List (Nat × List UInt8)) : (Tree.mk n s b l u).nul = b := rfl
theorem mk_l (n : Int) (s : List UInt8) (b : Bool) (l : List Tree) (u : List (Nat × List UInt8)) : (Tree.mk n s b l u).l = l := rfl
theorem wPart_fit_of {ver : Int} {flex : Bool} {fs : List Fld} (ht : ∀ f ∈ fs, f.tag < 0) (h : ∀ j (hj : j < fs.length), fs[j].has ver = true → ∀ x, wField ver flex fs[j] (fitF ver fs[j] x) = wField ver flex fs[j] x) (t : Tree) (b : Bool) :
  wPart ver flex fs ((fitP ver fs t).withNull b) = wPart ver flex fs t := by
 unfold wPart
 have e1 : wFs ver flex fs 0 ((fitP ver fs t).withNull b) = wFs ver flex fs 0 t := wFs_congr ver flex fs 0 0 t _ (fun j hj hh => by
  rw [withNull_att]
  simp only [Nat.zero_add]
  rw [att_fitP ver fs t j hj]
  exact h j hj hh _)
 rw [e1, allTags_fit (known_zero ht) t _ (by rw [withNull_u]; rfl)]
mutual
theorem wField_fit (ver : Int) (flex : Bool) : ∀ (f : Fld), f.tag < 0 → tabF ver f = true → ∀ x, wField ver flex f (fitF ver f x) = wField ver flex f x
 | .mk kind fr upto nul tag df of sub, htag, htab, x => by
  have htag' : ¬ (0 ≤ tag) := by have : tag < 0 := htag; omega
  simp only [tabF] at htab
  rw [fitF_eq]
  rw [fld_null]
  simp only [Fld.kind, Fld.tag, Fld.of, Fld.sub]
  by_cases h11 : kind = 11
  ·simp only [h11, if_true] at htab ⊢
   rw [wField_mk ver flex 11 fr upto nul tag df of sub _ _ rfl, wField_mk ver flex 11 fr upto nul tag df of sub x _ rfl]
   simp only [htag', decide_false, Bool.false_and, Bool.or_false, mk_nul, mk_l, if_true]
   have en : (x.nul && decide (0 ≤ nul) && decide (nul ≤ ver) && decide (0 ≤ nul) && decide (nul ≤ ver)) = (x.nul && decide (0 ≤ nul) && decide (nul ≤ ver)) := by
    cases x.nul <;> cases decide (0 ≤ nul) <;> cases decide (nul ≤ ver) <;> rfl
   rw [en]
   have el : things ((things x.l).map (fitVal of false (fitP ver sub))) = (things x.l).map (fitVal of false (fitP ver sub)) := things_of (by simp [things]; omega)
   rw [el]
   generalize (x.nul && decide (0 ≤ nul) && decide (nul ≤ ver)) = nb
   cases nb with
   | true => rfl
   | false =>
    simp only [Bool.false_eq_true, if_false, List.length_map, List.flatMap_map]
    congr 1
    refine congrArg (fun g => (things x.l).flatMap g) (funext fun y => ?_)
    refine fitVal_w of flex _ (fitP ver sub) _ false y (fun h10 => ?_)
    rw [if_pos h10] at htab
    exact wFsub_fit ver flex sub htab y false
  ·simp only [h11, if_false] at htab ⊢
   rw [wField_mk ver flex kind fr upto nul tag df of sub _ _ rfl, wField_mk ver flex kind fr upto nul tag df of sub x _ rfl]
   simp only [h11, if_false]
   by_cases h10 : kind = 10
   ·simp only [h10, if_true] at htab
    subst h10
    rw [fitVal_nul 10 _ _ _ (.inr (.inr rfl))]
    have en : (x.nul && decide (0 ≤ nul) && decide (nul ≤ ver) && decide (0 ≤ nul) && decide (nul ≤ ver)) = (x.nul && decide (0 ≤ nul) && decide (nul ≤ ver)) := by
     cases x.nul <;> cases decide (0 ≤ nul) <;> cases decide (nul ≤ ver) <;> rfl
    rw [en]
    have ew : wPart ver flex sub (fitVal 10 (x.nul && decide (0 ≤ nul) && decide (nul ≤ ver)) (fitP ver sub) x) = wPart ver flex sub x := by
     simp only [fitVal]
     exact wFsub_fit ver flex sub htab x _
    simp only [wVal, ew]
    rfl
   ·simp only [h10, false_and, if_false]
    by_cases h89 : kind = 8 ∨ kind = 9
    ·rw [fitVal_nul kind _ _ _ (by rcases h89 with h | h; exact .inl h; exact .inr (.inl h))]
     have en : (x.nul && decide (0 ≤ nul) && decide (nul ≤ ver) && decide (0 ≤ nul) && decide (nul ≤ ver)) = (x.nul && decide (0 ≤ nul) && decide (nul ≤ ver)) := by
      cases x.nul <;> cases decide (0 ≤ nul) <;> cases decide (nul ≤ ver) <;> rfl
     rw [en]
     exact fitVal_w kind flex _ (fitP ver sub) _ _ x (fun h => absurd h h10)
    ·have a8 : kind ≠ 8 := fun e => h89 (.inl e)
     have a9 : kind ≠ 9 := fun e => h89 (.inr e)
     simp [fitVal, wVal, a8, a9, h10, Tree.n, Tree.s]
theorem wFsub_fit (ver : Int) (flex : Bool) : ∀ (fs : List Fld), tabFs ver fs = true → ∀ (t : Tree) (b : Bool), wPart ver flex fs ((fitP ver fs t).withNull b) = wPart ver flex fs t
 | fs, h, t, b => wPart_fit_of (tab_tags h) (wEach_fit ver flex fs h) t b
theorem wEach_fit (ver : Int) (flex : Bool) : ∀ (fs : List Fld), tabFs ver fs = true → ∀ j (hj : j < fs.length), fs[j].has ver = true → ∀ x, wField ver flex fs[j] (fitF ver fs[j] x) = wField ver flex fs[j] x
 | [], _, j, hj, _ => by cases hj
 | f :: fs, h, j, hj, hh => by
  simp only [tabFs, Bool.and_eq_true, Bool.or_eq_true, Bool.not_eq_true', decide_eq_true_eq] at h
  cases j with
  | zero =>
   intro x
   simp only [List.getElem_cons_zero] at hh ⊢
   refine wField_fit ver flex f h.1.1 ?_ x
   rcases h.1.2 with h1 | h1
   ·rw [hh] at h1; cases h1
   ·exact h1
  | succ j => exact wEach_fit ver flex fs h.2 j (by simpa using hj) hh
end
end Go.Proofs.YtlmnaffhadeolaaGreatDoor

namespace Go.Proofs.YtlmnaffhadeolaaGreatDoor
open Go Go.RowKit
theorem fitU_fit {fs : List Fld} (hk : known fs = 0) {t t' : Tree} (ho : ∀ kv ∈ t.u, kv.1 < 4294967296) (h : t'.u = others fs t.u) : FitU fs t' := by
 have sub : ∀ kv ∈ unknown fs t.u, ∃ x ∈ t.u, x.1 = kv.1 := by
  unfold unknown
  have put : ∀ (k : Nat) (v : List UInt8) (u : List (Nat × List UInt8)), ∀ kv ∈ putTag k v u, kv.1 = k ∨ kv ∈ u := by
   intro k v u
   induction u with
   | nil => intro kv h; simp [putTag] at h; subst h; exact .inl rfl
   | cons x u ih =>
    intro kv h
    simp only [putTag] at h
    split at h
    ·rcases List.mem_cons.1 h with rfl | h
     ·exact .inr (by simp)
     ·rcases ih kv h with h | h
      ·exact .inl h
      ·exact .inr (by simp [h])
    ·split at h
     ·exact .inr h
     ·rcases List.mem_cons.1 h with rfl | h
      ·exact .inl rfl
      ·exact .inr h
  have : ∀ (l out : List (Nat × List UInt8)), ∀ kv ∈ l.foldl (fun out kv => if kv.1 < known fs then out else putTag kv.1 kv.2 out) out, (∃ x ∈ l, x.1 = kv.1) ∨ kv ∈ out := by
   intro l
   induction l with
   | nil => intro out kv h; exact .inr h
   | cons x l ih =>
    intro out kv h
    simp only [List.foldl_cons] at h
    rcases ih _ kv h with ⟨y, hy, e⟩ | h
    ·exact .inl ⟨y, by simp [hy], e⟩
    ·split at h
     ·exact .inr h
     ·rcases put _ _ _ kv h with h | h
      ·exact .inl ⟨x, by simp, h.symm⟩
      ·exact .inr h
  intro kv hkv
  rcases this _ _ kv hkv with ⟨x, hx, e⟩ | h
  ·exact ⟨x, List.mem_of_mem_take hx, e⟩
  ·cases h
 refine ⟨by rw [h, others_self hk], ?_, by rw [h]; simp [others, unknownLen]⟩
 intro kv hkv
 rw [h] at hkv
 simp only [others, List.mem_map] at hkv
 obtain ⟨x, hx, rfl⟩ := hkv
 obtain ⟨y, hy, e⟩ := sub x hx
 have := ho y hy
 exact ⟨by show x.1 < _; omega, whole_len _⟩
theorem fitV_fit (kind : Int) (null : Bool) (p : Tree → Tree) (t : Tree) (h10 : kind ≠ 10) : FitV kind (fitVal kind null p t) := by
 intro h
 unfold fitVal
 rw [if_pos h]
 exact whole_len _
mutual
theorem fitF_ok (ver : Int) : ∀ (f : Fld), f.tag < 0 → tabF ver f = true → ∀ x : Tree, x.ok → FitF ver f (fitF ver f x)
 | .mk kind fr upto nul tag df of sub, htag, htab, x, hx => by
  have htag' : ¬ (0 ≤ tag) := by have : tag < 0 := htag; omega
  simp only [tabF] at htab
  have hnn : ∀ b : Bool, b = (x.nul && decide (0 ≤ nul) && decide (nul ≤ ver)) → b = true → nul ≤ ver := by
   intro b e1 e2
   rw [e1] at e2
   simp only [Bool.and_eq_true, decide_eq_true_eq] at e2
   exact e2.2
  rw [fitF_eq]
  rw [fld_null]
  simp only [Fld.kind, Fld.tag, Fld.of, Fld.sub, FitF]
  by_cases h11 : kind = 11
  ·simp only [h11, if_true] at htab ⊢
   simp only [htag', decide_false, Bool.false_and, Bool.or_false, mk_nul, mk_l]
   refine ⟨fun _ e => hnn _ rfl e, by simp [things]; omega, fun h10 => ?_, fun h10 => ?_⟩
   ·rw [if_pos h10] at htab
    intro y hy
    obtain ⟨z, hz, rfl⟩ := List.mem_map.1 hy
    have hzo := hx.l z (List.mem_of_mem_take hz)
    subst h10
    simp only [fitVal]
    exact ⟨fitPart_ok ver sub htab z hzo false, fitU_fit (known_zero (tab_tags htab)) hzo.u (by show ((fitP ver sub z).withNull false).u = _; rw [withNull_u]; rfl)⟩
   ·rw [if_neg h10] at htab
    simp at htab
    refine ⟨htab, fun y hy => ?_⟩
    obtain ⟨z, hz, rfl⟩ := List.mem_map.1 hy
    exact fitV_fit of false _ z h10
  ·simp only [h11, if_false] at htab ⊢
   by_cases h10 : kind = 10
   ·simp only [h10, if_true] at htab ⊢
    refine ⟨fun _ e => ?_, ?_, ?_⟩
    ·rw [fitVal_nul 10 _ _ _ (.inr (.inr rfl))] at e
     exact hnn _ rfl e
    ·simp only [fitVal]
     exact fitPart_ok ver sub htab x hx _
    ·exact fitU_fit (known_zero (tab_tags htab)) hx.u (by subst h10; show ((fitP ver sub x).withNull _).u = _; rw [withNull_u]; rfl)
   ·simp only [h10, if_false]
    refine ⟨fun _ e => ?_, fitV_fit kind _ _ x h10⟩
    by_cases h89 : kind = 8 ∨ kind = 9
    ·rw [fitVal_nul kind _ _ _ (by rcases h89 with h | h; exact .inl h; exact .inr (.inl h))] at e
     exact hnn _ rfl e
    ·unfold fitVal at e
     rw [if_neg h89, if_neg h10] at e
     cases e
theorem fitPart_ok (ver : Int) : ∀ (fs : List Fld), tabFs ver fs = true → ∀ (t : Tree), t.ok → ∀ b, FitFs ver fs 0 ((fitP ver fs t).withNull b)
 | fs, h, t, ht, b => fitFs_ok ver fs h 0 _ (fun j hj => ⟨att t j, ht.at j, by rw [withNull_att, Nat.zero_add, att_fitP ver fs t j hj]⟩)
theorem fitFs_ok (ver : Int) : ∀ (fs : List Fld), tabFs ver fs = true → ∀ (i : Nat) (t' : Tree), (∀ j (hj : j < fs.length), ∃ x : Tree, x.ok ∧ att t' (i + j) = fitF ver fs[j] x) → FitFs ver fs i t'
 | [], _, _, _, _ => by simp [FitFs]
 | f :: fs, h, i, t', hall => by
  simp only [tabFs, Bool.and_eq_true, Bool.or_eq_true, Bool.not_eq_true', decide_eq_true_eq] at h
  simp only [FitFs]
  refine ⟨h.1.1, fun hh => ?_, fitFs_ok ver fs h.2 (i + 1) t' (fun j hj => ?_)⟩
  ·obtain ⟨x, hx, e⟩ := hall 0 (by simp)
   simp only [Nat.add_zero, List.getElem_cons_zero] at e
   rw [e]
   refine fitF_ok ver f h.1.1 ?_ x hx
   rcases h.1.2 with h1 | h1
   ·rw [hh] at h1; cases h1
   ·exact h1
  ·obtain ⟨x, hx, e⟩ := hall (j + 1) (by simpa using hj)
   exact ⟨x, hx, by rw [show i + 1 + j = i + (j + 1) by omega, e]; simp⟩
end
theorem fitt_ok {ver : Int} {fs : List Fld} (h : tabFs ver fs = true) {t : Tree} (ht : t.ok) (flex : Bool) : FitT ver fs ((fitP ver fs t).withNull false) ∧ wPart ver flex fs ((fitP ver fs t).withNull false) = wPart ver flex fs t :=
 ⟨⟨fitPart_ok ver fs h t ht false, fitU_fit (known_zero (tab_tags h)) ht.u (by rw [withNull_u]; rfl)⟩, wFsub_fit ver flex fs h t false⟩
end Go.Proofs.YtlmnaffhadeolaaGreatDoor

namespace Go.Proofs.YtlmnaffhadeolaaGreatDoor
open Go Go.RowKit
def number (kind n : Int) : Int := if kind = 0 then n % 2 else if kind = 1 then IntKind.i8.wrap n else if kind = 2 then IntKind.i16.wrap n else if kind = 3 then IntKind.i32.wrap n else if kind = 5 then IntKind.u16.wrap n else n
mutual
def UsF : Fld → Tree → Prop
  | .mk kind _ _ nul _ df _ sub, x =>
    if kind = 8 then x.nul = decide (0 ≤ nul) ∧ x.s = []
    else if kind = 7 then x.s = List.replicate 16 0
    else if kind = 9 ∨ kind = 11 then x.s = [] ∧ x.l = []
    else if kind = 10 then x.u = [] ∧ UsFs sub x.l
    else x.n = number kind df
def UsFs : List Fld → List Tree → Prop
  | [], l => l = []
  | f :: fs, l => ∃ x r, l = x :: r ∧ UsF f x ∧ UsFs fs r
end
def ToV (kind : Int) (t g : Tree) : Prop := if kind = 8 ∨ kind = 9 then g.s = whole t.s else if kind = 7 then g.s = sixteen t.s else g.n = number kind t.n
mutual
def ToF (ver : Int) (flex : Bool) : Fld → Tree → Tree → Prop
  | .mk kind _ _ nul _ _ of sub, t, g =>
    ((kind = 8 ∨ kind = 10 ∨ (0 ≤ nul ∧ nul ≤ ver)) → g.nul = (t.nul && decide (0 ≤ nul) && decide (nul ≤ ver))) ∧
    ((t.nul && decide (0 ≤ nul) && decide (nul ≤ ver)) = false →
      if kind = 10 then ToFs ver flex sub 0 t g.l ∧ g.u = (if flex then others sub t.u else [])
      else if kind = 11 then g.l.length = (things t.l).length ∧ ∀ (i : Nat) (x y : Tree), (things t.l)[i]? = some x → g.l[i]? = some y →
        ((of = 8 ∨ of = 10) → y.nul = false) ∧ (if of = 10 then ToFs ver flex sub 0 x y.l ∧ y.u = (if flex then others sub x.u else []) else ToV of x y)
      else ToV kind t g)
def ToFs (ver : Int) (flex : Bool) : List Fld → Nat → Tree → List Tree → Prop
  | [], _, _, l => l = []
  | f :: fs, i, t, l => ∃ x r, l = x :: r ∧ (if f.has ver = true then ToF ver flex f (att t i) x else UsF f x) ∧ ToFs ver flex fs (i + 1) t r
end
mutual
def tabT : Fld → Bool
  | .mk kind _ _ nul tag df of sub => decide (tag < 0) && (decide (nul < 0) || decide (kind = 8) || decide (kind = 9) || decide (kind = 11)) && (!decide (kind = 0) || (decide (df = 0) || decide (df = 1))) && decide (IntKind.i64.wrap df = df) && decide (of ≠ 11) && tabTs sub
def tabTs : List Fld → Bool
  | [] => true
  | f :: fs => tabT f && tabTs fs
end
mutual
def cntF (tg : Bool) : Fld → Nat
  | .mk kind _ _ _ _ _ _ sub => if kind = 11 then 1 else if kind = 10 then cntFs tg sub + (if tg then 1 else 0) else 1
def cntFs (tg : Bool) : List Fld → Nat
  | [] => 0
  | f :: fs => cntF tg f + cntFs tg fs
end
theorem tellTags_cnt (tg : Bool) (u : List (Nat × List UInt8)) : (TellTags tg u).length = if tg then 1 else 0 := by cases tg <;> rfl
mutual
theorem tellF_cnt {tg : Bool} : ∀ {f : Fld} {ds : List D} {T : Tree}, TellF tg f ds T → ds.length = cntF tg f
  | .mk kind fr upto nul tag df of sub, ds, T, h => by
    simp only [TellF] at h
    simp only [cntF]
    by_cases h11 : kind = 11
    · simp only [h11, if_true] at h ⊢
      obtain ⟨d, els, rfl, _⟩ := h; rfl
    · simp only [h11, if_false] at h ⊢
      by_cases h10 : kind = 10
      · simp only [h10, if_true] at h ⊢
        obtain ⟨a, u, rfl, _, _, hs⟩ := h
        rw [List.length_append, tellFs_cnt hs, tellTags_cnt]
      · simp only [h10, if_false] at h ⊢
        obtain ⟨d, rfl, _⟩ := h; rfl
theorem tellFs_cnt {tg : Bool} : ∀ {fs : List Fld} {ds : List D} {l : List Tree}, TellFs tg fs ds l → ds.length = cntFs tg fs
  | [], ds, l, h => by simp only [TellFs] at h; rw [h.1]; rfl
  | f :: fs, ds, l, h => by
    simp only [TellFs] at h
    obtain ⟨a, b, x, r, rfl, _, h1, h2⟩ := h
    rw [List.length_append, tellF_cnt h1, tellFs_cnt h2]; rfl
end
theorem byteD_inj {a b : UInt8} (h : byteD a = byteD b) : a = b := by
  simp only [byteD, D.lit.injEq, Value.int.injEq, true_and] at h
  exact UInt8.toNat_inj.1 (by omega)
theorem bytesD_inj {a b : List UInt8} (h : bytesD a = bytesD b) : a = b := by
  simp only [bytesD, D.sq.injEq] at h
  exact List.map_inj_right (fun _ _ => byteD_inj) |>.1 h
theorem tagsK_inj {u v : List (Nat × List UInt8)} (h : tagsK u = tagsK v) : u = v := by
  simp only [tagsK, D.mp.injEq] at h
  refine (List.map_inj_right (fun x y e => ?_)).1 h
  simp only [Prod.mk.injEq] at e
  exact Prod.ext e.1 (bytesD_inj e.2)
theorem strV_inj {a b : List UInt8} (h : strV a = strV b) : a = b := by
  simpa [strV] using h
end Go.Proofs.YtlmnaffhadeolaaGreatDoor

namespace Go.Proofs.YtlmnaffhadeolaaGreatDoor
open Go Go.RowKit
structure TabT (kind nul tag df of : Int) (sub : List Fld) : Prop where
 tag : tag < 0
 nul : nul < 0 ∨ kind = 8 ∨ kind = 9 ∨ kind = 11
 df0 : kind = 0 → df = 0 ∨ df = 1
 df : IntKind.i64.wrap df = df
 of : of ≠ 11
 sub : tabTs sub = true
theorem split_cnt {a b c d : List D} (h : a ++ b = c ++ d) (hl : a.length = c.length) : a = c ∧ b = d := List.append_inj h hl
end Go.Proofs.YtlmnaffhadeolaaGreatDoor

namespace Go.Proofs.YtlmnaffhadeolaaGreatDoor
open Go Go.RowKit
theorem bytes_inj {a b : List UInt8} (h : a.map byteD = b.map byteD) : a = b := (List.map_inj_right (fun _ _ => byteD_inj)).1 h
end Go.Proofs.YtlmnaffhadeolaaGreatDoor

namespace Go.Proofs.YtlmnaffhadeolaaGreatDoor
open Go Go.RowKit
end Go.Proofs.YtlmnaffhadeolaaGreatDoor

namespace Go.Proofs.YtlmnaffhadeolaaGreatDoor
open Go Go.RowKit
end Go.Proofs.YtlmnaffhadeolaaGreatDoor
