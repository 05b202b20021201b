/- The reference's unknown tags, and the bounds that the statements ask: what each comes to. -/
import Derived.Test.YtaoecdeljfdmeaaSpecB
import Derived.Test.YtaoecdeljfdmeaaRow
namespace Go.Proofs.Ytaoecdeljfdmeaa
open Go Go.RowKit

section
variable {P : Program} {N : Nat} {L : Sl} {a : Act} {w : World}
/-- What stands behind something that is not run is not run. -/
theorem gv_noU {ops : List Oper} {i j t : Nat} {o : Oper} {want : Bool} (ho : ops[i]? = some o) (hg : o.guard = some (j, want)) (hj : dstOf ops j = some t) (k : Kn N a L) (hb : lk L t = some undef) : Gives P ops i undef a w := by
  unfold Gives
  rw [ho]
  have h1 := k.at_ t _ hb
  have hy : yielded ops.toArray a.tmps j = none := by
    have hj' : (ops[j]?).bind (·.dst) = some t := hj
    simp only [yielded, List.getElem?_toArray, hj', Option.bind_some]
    simp only [gt, Array.getD_eq_getD_getElem?] at h1
    cases ht : a.tmps[t]? with
    | none => rfl
    | some v => rw [ht] at h1; simp at h1; subst h1; rfl
  exact .inr ⟨by simp [Region.wanted, hg, hy], rfl⟩
end

/-- A tag as the walk holds it: what it says, and the slice that holds its octets. -/
abbrev Tg : Type := (Nat × List UInt8) × Value
def tcells (qs : List Tg) : List Value := qs.flatMap fun q => [.int .u32 q.1.1, q.2]
theorem tcells_append (a b : List Tg) : tcells (a ++ b) = tcells a ++ tcells b := by simp [tcells]
theorem tcells_cons (q : Tg) (b : List Tg) : tcells (q :: b) = [.int .u32 q.1.1, q.2] ++ tcells b := by simp [tcells]
theorem tcells_length (a : List Tg) : (tcells a).length = a.length * 2 := by
  induction a with
  | nil => rfl
  | cons q a ih => rw [tcells_cons]; simp only [List.length_append, ih, List.length_cons, List.length_nil]; omega
theorem tcells_split (qs : List Tg) {j : Nat} (hj : j < qs.length) : tcells qs = tcells (qs.take j) ++ ([.int .u32 qs[j].1.1, qs[j].2] ++ tcells (qs.drop (j + 1))) := by
  rw [← tcells_cons, ← tcells_append, List.getElem_cons_drop, List.take_append_drop]
theorem tcells_at {w : World} {g : Nat} {qs : List Tg} (h : CellsAt w g 0 (tcells qs)) {j : Nat} (hj : j < qs.length) : CellsAt w g (0 + j * 2) [.int .u32 qs[j].1.1, qs[j].2] := by
  rw [tcells_split qs hj] at h
  have := h.part
  rwa [tcells_length, List.length_take, Nat.min_eq_left (by omega)] at this
theorem tcells_set (qs : List Tg) {j : Nat} (hj : j < qs.length) (q : Tg) : (tcells qs).take (j * 2) ++ [.int .u32 q.1.1, q.2] ++ (tcells qs).drop (j * 2 + 2) = tcells (qs.set j q) := by
  have e1 : (tcells (qs.take j)).length = j * 2 := by rw [tcells_length, List.length_take, Nat.min_eq_left (by omega)]
  rw [tcells_split qs hj, List.set_eq_take_append_cons_drop, if_pos hj, tcells_append, tcells_cons]
  rw [List.take_append_of_le_length (by omega), List.take_of_length_le (by omega), ← List.append_assoc, List.drop_append_of_le_length (by simp [e1])]
  rw [List.drop_of_length_le (by simp [e1])]
  simp
theorem tcells_reps {B : Nat} {w : World} : ∀ (qs : List Tg), (∀ q ∈ qs, Sq B w q.2 (q.1.2.map byteD)) → Reps (Lo B) w (qs.map fun q => tagD q.1) (tcells qs)
  | [], _ => by simp [tcells, Reps]
  | q :: qs, h => by
    rw [tcells_cons, List.map_cons]
    simp only [Reps]
    refine ⟨_, _, rfl, ?_, tcells_reps qs (fun x hx => h x (by simp [hx]))⟩
    have h1 := h q (by simp)
    simp only [Sq] at h1
    simp only [tagD, Rep, Reps, bytesD]
    refine ⟨[_], [q.2], rfl, rfl, [q.2], [], rfl, ?_, rfl⟩
    simpa [Rep] using h1

/-- Where a tag is put. -/
theorem putTag_at (k : Nat) (v : List UInt8) : ∀ (l : List (Nat × List UInt8)) (j : Nat) (_ : j ≤ l.length), (∀ q (h : q < l.length), q < j → l[q].1 < k) → (∀ h : j < l.length, ¬ l[j].1 < k) →
    putTag k v l = if (∃ h : j < l.length, l[j].1 = k) then l else l.take j ++ (k, v) :: l.drop j
  | [], j, hj, _, _ => by
    have : j = 0 := by simpa using hj
    subst this; simp [putTag]
  | kv :: r, 0, _, _, h2 => by
    have := h2 (by simp)
    simp only [List.getElem_cons_zero] at this
    simp only [putTag, if_neg this, List.length_cons, List.getElem_cons_zero, List.take_zero, List.drop_zero, List.nil_append]
    by_cases he : kv.1 = k <;> simp [he]
  | kv :: r, j + 1, hj, h1, h2 => by
    have h0 := h1 0 (by simp) (by omega)
    simp only [List.getElem_cons_zero] at h0
    have ih := putTag_at k v r j (by simpa using hj) (fun q h hq => h1 (q + 1) (Nat.succ_lt_succ h) (Nat.succ_lt_succ hq)) (fun h => h2 (Nat.succ_lt_succ h))
    simp only [putTag, if_pos h0, ih, List.length_cons, List.getElem_cons_succ, Nat.add_lt_add_iff_right, List.take_succ_cons, List.drop_succ_cons]
    split <;> simp
def step (least : Nat) (out : List (Nat × List UInt8)) (kv : Nat × List UInt8) : List (Nat × List UInt8) := if kv.1 < least then out else putTag kv.1 kv.2 out
theorem putTag_length (k : Nat) (v : List UInt8) (l : List (Nat × List UInt8)) : (putTag k v l).length ≤ l.length + 1 := by
  induction l with
  | nil => simp [putTag]
  | cons a l ih => simp only [putTag]; split; · simp; omega
                   · split <;> simp
theorem step_fold_snoc (least : Nat) (u : List (Nat × List UInt8)) {i : Nat} (hi : i < u.length) : (u.take (i + 1)).foldl (step least) [] = step least ((u.take i).foldl (step least) []) u[i] := by
  rw [List.take_succ_eq_append_getElem hi, List.foldl_append]; rfl
theorem step_fold_length (least : Nat) : ∀ (u out : List (Nat × List UInt8)), (u.foldl (step least) out).length ≤ out.length + u.length
  | [], out => by simp
  | kv :: u, out => by
    have h1 := step_fold_length least u (step least out kv)
    have h2 : (step least out kv).length ≤ out.length + 1 := by
      unfold step; split
      · omega
      · exact putTag_length _ _ _
    simp only [List.foldl_cons, List.length_cons]; omega

structure UkS where
  i : Nat
  d : Value
  qs : List Tg
structure UkI (B : Nat) (w : World) (N0 tt least : Nat) (u : List (Nat × List UInt8)) (x : UkS) (w' : World) : Prop where
  le : x.i ≤ min u.length Most
  below : Below w.heap.size w w'
  row : w'.ownsRow N0 tt 2 x.d x.qs.length (tcells x.qs)
  says : x.qs.map (·.1) = (u.take x.i).foldl (step least) []
  at_ : ∀ q ∈ x.qs, Sq B w q.2 (q.1.2.map byteD)
theorem tg_len {qs : List Tg} {l : List (Nat × List UInt8)} (h : qs.map (·.1) = l) : l.length = qs.length := by rw [← h]; simp
theorem tg_get {qs : List Tg} {l : List (Nat × List UInt8)} (h : qs.map (·.1) = l) {j : Nat} (hj : j < qs.length) (hl : j < l.length) : l[j] = qs[j].1 := by subst h; simp
theorem shift_end (qs : List Tg) (x q : Tg) {j : Nat} (hj : j ≤ qs.length) : (qs.take j ++ x :: qs.drop j).set j q = qs.take j ++ q :: qs.drop j := by
  rw [List.set_append_right _ _ (by simp; omega)]
  have : j - (qs.take j).length = 0 := by simp; omega
  rw [this]; rfl
theorem shift_step (qs : List Tg) (x : Tg) {k : Nat} (hk : k + 1 ≤ qs.length) : (qs.take (k + 1) ++ x :: qs.drop (k + 1)).set (k + 1) qs[k] = qs.take k ++ qs[k] :: qs.drop k := by
  rw [shift_end qs x _ hk, List.take_succ_eq_append_getElem (by omega), List.append_assoc]
  congr 1
  simp only [List.singleton_append]
  rw [List.getElem_cons_drop]

theorem Row.kept {w w' : World} {B e sz : Nat} {d : Value} {n : Nat} {xs : List Value} {row : Option Nat} (h : w.ownsRow B e sz d n xs) (hg : w.grownBy w' row) (hne : ∀ g, d.ownBlock = some g → row ≠ some g) : w'.ownsRow B e sz d n xs := by
  refine World.ownsRow.kept h hg ?_
  cases hd : d.ownBlock with
  | none => exact .inl rfl
  | some g => exact .inr (fun e => hne g hd e.symm)

section
set_option maxRecDepth 100000
theorem fn_unknownR (fv uv : Value) (fs : List Fld) (u : List (Nat × List UInt8)) (B : Nat) (w : World) (hB : B ≤ w.heap.size) (hf : Sq B w fv (fs.map fldD)) (hu : Sq B w uv (u.map tagD)) (ht : ∀ f ∈ fs, f.tag < 2147483647) (hl : fs.length ≤ 1000000) :
    Fn 26 [fv, uv] w fun r w' => ∃ qs : List Tg, w'.ownsRow w.heap.size 56 2 r qs.length (tcells qs) ∧ qs.map (·.1) = unknown fs u ∧ ∀ q ∈ qs, Sq B w q.2 (q.1.2.map byteD) := by
  obtain ⟨au, cu, rfl, hcu⟩ := hu.shape
  simp only [List.length_map] at *
  have hkn := known_le ht
  refine enter Try.func26 rfl Try.ntmps26 rfl ?_
  repeat first|(with_reducible first|apply wc_seq|apply wc_region|apply wl_nil|apply qk_thn|apply wc_block|apply wc_skip|apply wc_ret|apply wc_exit|apply qk_thn_ret|apply qk_in_ret|apply qk_in|apply qk_thn_exit|apply qk_in_exit|apply qk_round_ret|apply qk_round_exit)|((with_reducible apply ws);exact rfl;exact rfl)|((with_reducible apply wl_yes);exact rfl;exact rfl;exact rfl)|((with_reducible apply wl_no);exact rfl;exact rfl;exact rfl;exact rfl)|((with_reducible apply wl_noU);exact rfl;exact rfl;exact rfl)
  refine wl_call rfl (by kernel_rfl) rfl ((fn_known fv fs B w hB hf ht hl).mono ?_)
  rintro e w0 ⟨v, rfl, hw0, rfl⟩
  refine ⟨_, rfl, ?_⟩
  repeat first|(with_reducible first|apply wc_seq|apply wc_region|apply wl_nil|apply qk_thn|apply wc_block|apply wc_skip|apply wc_ret|apply wc_exit|apply qk_thn_ret|apply qk_in_ret|apply qk_in|apply qk_thn_exit|apply qk_in_exit|apply qk_round_ret|apply qk_round_exit)|((with_reducible apply ws);exact rfl;exact rfl)|((with_reducible apply wl_yes);exact rfl;exact rfl;exact rfl)|((with_reducible apply wl_no);exact rfl;exact rfl;exact rfl;exact rfl)|((with_reducible apply wl_noU);exact rfl;exact rfl;exact rfl)
  refine wl_min rfl rfl rfl (min_if u.length) ?_
  refine wl_sliceHi rfl rfl el_tags rfl (by omega) ?_
  repeat first|(with_reducible first|apply wc_seq|apply wc_region|apply wl_nil|apply qk_thn|apply wc_block|apply wc_skip|apply wc_ret|apply wc_exit|apply qk_thn_ret|apply qk_in_ret|apply qk_in|apply qk_thn_exit|apply qk_in_exit|apply qk_round_ret|apply qk_round_exit)|((with_reducible apply ws);exact rfl;exact rfl)|((with_reducible apply wl_yes);exact rfl;exact rfl;exact rfl)|((with_reducible apply wl_no);exact rfl;exact rfl;exact rfl;exact rfl)|((with_reducible apply wl_noU);exact rfl;exact rfl;exact rfl)
  refine wc_loop (α := UkS) (fun x => [(19, .int .i64 (x.i : Int)), (18, .int .i64 ((min u.length Most : Nat) : Int)), (17, .slice au (min u.length Most) cu), (6, x.d), (5, .int .u32 (known fs : Nat))]) (UkI B w w.heap.size 56 (known fs) u) (fun x => min u.length Most - x.i) ⟨0, .slice none 0 0, []⟩ ⟨rfl, rfl, rfl, rfl, rfl, trivial⟩ ⟨Nat.zero_le _, hw0, World.ownsRow_nil _ _ _ _, rfl, by simp⟩ ?_
  rintro ⟨i, d, qs⟩ w1 ⟨hi, hw1, hrow, hsay, hat⟩
  simp only [] at hi hrow hsay hat
  change WC _ _ _ _ [(19, .int .i64 (i : Int)), (18, .int .i64 ((min u.length Most : Nat) : Int)), (17, .slice au (min u.length Most) cu), (6, d), (5, .int .u32 (known fs : Nat))] _
  have hqn : qs.length ≤ 32767 := by
    rw [← tg_len hsay]
    have := step_fold_length (known fs) (u.take i) []
    simp only [List.length_nil, List.length_take, Nat.zero_add] at this
    simp only [Most] at hi; omega
  repeat first|(with_reducible first|apply wc_seq|apply wc_region|apply wl_nil|apply qk_thn|apply wc_block|apply wc_skip|apply wc_ret|apply wc_exit|apply qk_thn_ret|apply qk_in_ret|apply qk_in|apply qk_thn_exit|apply qk_in_exit|apply qk_round_ret|apply qk_round_exit)|((with_reducible apply ws);exact rfl;exact rfl)|((with_reducible apply wl_yes);exact rfl;exact rfl;exact rfl)|((with_reducible apply wl_no);exact rfl;exact rfl;exact rfl;exact rfl)|((with_reducible apply wl_noU);exact rfl;exact rfl;exact rfl)
  by_cases hlt : i < min u.length Most
  · refine wc_yes rfl (by simpa using hlt) ?_
    have hi32 : i < 32767 := Nat.lt_of_lt_of_le hlt (Nat.min_le_right u.length Most)
    have hiu : i < u.length := by omega
    have hsn := step_fold_snoc (known fs) u hiu
    obtain ⟨b, off, c', cs, hv, _, hcs, hlen, hr⟩ := (hu.below (hw1.mono hB) (Nat.le_refl _)).get (sz := 2) (i := i) (by intro d hd; obtain ⟨x, _, rfl⟩ := List.mem_map.1 hd; exact tagD_width x) (by simpa using hiu)
    simp only [Value.slice.injEq, List.length_map] at hv
    obtain ⟨rfl, _, rfl⟩ := hv
    simp only [List.getElem_map] at hr
    obtain ⟨hone, _⟩ := tag_one hr
    obtain ⟨sv, hce, hsv1⟩ := tag_cells hr
    subst hce
    have hsv : Sq B w sv (u[i].2.map byteD) := by
      obtain ⟨b2, off2, c2, cs2, hv2, _, hcs2, hlen2, hr2⟩ := hu.get (sz := 2) (i := i) (by intro d hd; obtain ⟨x, _, rfl⟩ := List.mem_map.1 hd; exact tagD_width x) (by simpa using hiu)
      simp only [Value.slice.injEq, Option.some.injEq, Addr.mk.injEq, and_true] at hv2
      obtain ⟨⟨rfl, rfl⟩, _, _⟩ := hv2
      simp only [List.getElem_map] at hr2
      obtain ⟨sv2, hce2, hsv2⟩ := tag_cells hr2
      subst hce2
      have hb1 := hw1.mono hB
      have e1 := hcs.cell (i := 1) (v := sv) rfl
      have e2 := (hcs2.of_block (hb1.block b (by assumption))).cell (i := 1) (v := sv2) rfl
      rw [e1] at e2; cases e2
      exact hsv2
    repeat first|(with_reducible first|apply wc_seq|apply wc_region|apply wl_nil|apply qk_thn|apply wc_block|apply wc_skip|apply wc_ret|apply wc_exit|apply qk_thn_ret|apply qk_in_ret|apply qk_in|apply qk_thn_exit|apply qk_in_exit|apply qk_round_ret|apply qk_round_exit)|((with_reducible apply ws);exact rfl;exact rfl)|((with_reducible apply wl_yes);exact rfl;exact rfl;exact rfl)|((with_reducible apply wl_no);exact rfl;exact rfl;exact rfl;exact rfl)|((with_reducible apply wl_noU);exact rfl;exact rfl;exact rfl)
    refine wl_indexAddr rfl rfl es_tags rfl hlt ?_
    refine wl_loadAgg (cs := [.int .u32 u[i].1, sv]) rfl ta_tag rfl (fun j v e => hcs.cell e) ?_
    refine wl_alloc zv_tag rfl rfl (fun w2 hb2 hg2 hs2 => ?_)
    refine wl_storeBAgg (vs := [.int .u32 u[i].1, sv]) rfl rfl rfl tz_tag hone hb2 rfl (fun w3 hb3 hg3 hs3 => ?_)
    have hs1 := hw1.size
    have hw3 : Below w.heap.size w w3 := (hw1.trans (below_of hg2 hs1 (by simp))).trans (below_of hg3 (by omega) (by intro k hk; simp at hk; omega))
    have hdlt : ∀ g, d.ownBlock = some g → w.heap.size ≤ g ∧ g < w1.heap.size := fun g hg => World.ownsRow.lt hrow g hg
    have hrow3 : w3.ownsRow w.heap.size 56 2 d qs.length (tcells qs) :=
      Row.kept (Row.kept hrow hg2 (fun g _ => by simp)) hg3 (fun g hg e => by have := hdlt g hg; simp at e; omega)
    refine wl_nil (qk_thn (wc_seq (wc_region ?_)))
    repeat first|((with_reducible apply ws);exact rfl;exact rfl)|((with_reducible apply wl_yes);exact rfl;exact rfl;exact rfl)|((with_reducible apply wl_no);exact rfl;exact rfl;exact rfl;exact rfl)|((with_reducible apply wl_noU);exact rfl;exact rfl;exact rfl)
    refine wl_nil (qk_thn ?_)
    refine wc_cut (α := Nat) (fun j => [(19, .int .i64 (i : Int)), (18, .int .i64 ((min u.length Most : Nat) : Int)), (17, .slice (some ⟨b, off, none⟩) (min u.length Most) cu), (9, .int .i64 (j : Int)), (8, .pointer (some ⟨w1.heap.size, 0, none⟩)), (6, d), (5, .int .u32 (known fs : Nat))])
      (fun j w' => j ≤ qs.length ∧ (∀ q (h : q < qs.length), q < j → qs[q].1.1 < u[i].1) ∧ (∀ h : j < qs.length, ¬ qs[j].1.1 < u[i].1) ∧ Below w.heap.size w w' ∧ w'.ownsRow w.heap.size 56 2 d qs.length (tcells qs) ∧ Box w' w1.heap.size [.int .u32 u[i].1, sv] 56) ?_ ?_
    · repeat first|(with_reducible first|apply wc_seq|apply wc_region|apply wl_nil|apply qk_thn|apply wc_block|apply wc_skip|apply wc_ret|apply wc_exit|apply qk_thn_ret|apply qk_in_ret|apply qk_in|apply qk_thn_exit|apply qk_in_exit|apply qk_round_ret|apply qk_round_exit)|((with_reducible apply ws);exact rfl;exact rfl)|((with_reducible apply wl_yes);exact rfl;exact rfl;exact rfl)|((with_reducible apply wl_no);exact rfl;exact rfl;exact rfl;exact rfl)|((with_reducible apply wl_noU);exact rfl;exact rfl;exact rfl)
      refine wc_loop (α := Nat) (fun j => [(19, .int .i64 (i : Int)), (18, .int .i64 ((min u.length Most : Nat) : Int)), (17, .slice (some ⟨b, off, none⟩) (min u.length Most) cu), (9, .int .i64 (j : Int)), (8, .pointer (some ⟨w1.heap.size, 0, none⟩)), (6, d), (5, .int .u32 (known fs : Nat))])
        (fun j w' => j ≤ qs.length ∧ (∀ q (h : q < qs.length), q < j → qs[q].1.1 < u[i].1) ∧ Below w.heap.size w w' ∧ w'.ownsRow w.heap.size 56 2 d qs.length (tcells qs) ∧ Box w' w1.heap.size [.int .u32 u[i].1, sv] 56) (fun j => qs.length - j) 0 ⟨rfl, rfl, rfl, rfl, rfl, rfl, rfl, trivial⟩ ⟨Nat.zero_le _, by omega, hw3, hrow3, hb3⟩ ?_
      rintro j w4 ⟨hj, hbef, hw4, hrow4, hb4⟩
      repeat first|(with_reducible first|apply wc_seq|apply wc_region|apply wl_nil|apply qk_thn|apply wc_block|apply wc_skip|apply wc_ret|apply wc_exit|apply qk_thn_ret|apply qk_in_ret|apply qk_in|apply qk_thn_exit|apply qk_in_exit|apply qk_round_ret|apply qk_round_exit)|((with_reducible apply ws);exact rfl;exact rfl)|((with_reducible apply wl_yes);exact rfl;exact rfl;exact rfl)|((with_reducible apply wl_no);exact rfl;exact rfl;exact rfl;exact rfl)|((with_reducible apply wl_noU);exact rfl;exact rfl;exact rfl)
      obtain ⟨ad, cd, hde⟩ := Row.shape hrow4
      subst hde
      by_cases hjl : j < qs.length
      · obtain ⟨g, cap, hde, hg1, hg2', hca⟩ := Row.cells hrow4 (by omega)
        simp only [Value.slice.injEq, true_and] at hde
        obtain ⟨rfl, rfl⟩ := hde
        have hcj := tcells_at hca hjl
        refine wc_par [(0, .int .i64 (j : Int)), (1, .slice (some ⟨g, 0, none⟩) qs.length cd), (2, .int .i64 (qs.length : Int)), (3, .bool (decide ((j : Int) < (qs.length : Int)))), (4, .bool (decide ((j : Int) < (qs.length : Int)))), (5, .slice (some ⟨g, 0, none⟩) qs.length cd), (6, .int .i64 (j : Int)), (7, .pointer (some ⟨g, 0 + j * 2, none⟩)), (8, .pointer (some ⟨g, 0 + j * 2 + 0, none⟩)), (9, .int .u32 (qs[j].1.1 : Nat)), (10, .pointer (some ⟨w1.heap.size, 0 + 0, none⟩)), (11, .int .u32 (u[i].1 : Nat)), (12, .bool (decide ((qs[j].1.1 : Int) < (u[i].1 : Int)))), (13, .bool (decide ((qs[j].1.1 : Int) < (u[i].1 : Int))))] []
          (fun _ w' => w' = w4.drew)
          mixed rfl rfl rfl rfl rfl (by show ([0,1,2,3,4,5,6,7,8,9,10,11,12,13] : List Nat).Nodup; decide) rfl rfl (by decide) rfl rfl rfl rfl rfl ?_ trivial ?_
        · intro p hp vals w' hC a k
          subst hC
          simp only [List.mem_cons, List.not_mem_nil, or_false] at hp
          have ht4 : decide ((j : Int) < (qs.length : Int)) = true := by simpa using hjl
          rcases hp with rfl | rfl | rfl | rfl | rfl | rfl | rfl | rfl | rfl | rfl | rfl | rfl | rfl | rfl
          · exact gv rfl rfl (rn_move k rfl)
          · exact gv rfl rfl (rn_move k rfl)
          · exact gv rfl rfl (rn_len k rfl el_tags)
          · exact gv rfl rfl (rn_lss k rfl rfl)
          · exact gv rfl rfl (rn_move k rfl)
          · exact gv_yes rfl rfl rfl k rfl (by rw [ht4]; rfl) (rn_move k rfl)
          · exact gv_yes rfl rfl rfl k rfl (by rw [ht4]; rfl) (rn_move k rfl)
          · exact gv_yes rfl rfl rfl k rfl (by rw [ht4]; rfl) (rn_indexAddr k rfl rfl es_tags hjl)
          · exact gv_yes rfl rfl rfl k rfl (by rw [ht4]; rfl) (rn_fieldAddr k rfl fo_tag0)
          · exact gv_yes rfl rfl rfl k rfl (by rw [ht4]; rfl) (rn_load k rfl to_u32 (hcj.cell (i := 0) rfl))
          · exact gv_yes rfl rfl rfl k rfl (by rw [ht4]; rfl) (rn_fieldAddr k rfl fo_tag0)
          · exact gv_yes rfl rfl rfl k rfl (by rw [ht4]; rfl) (rn_load k rfl to_u32 (hb4.cell0 (i := 0) rfl))
          · exact gv_yes rfl rfl rfl k rfl (by rw [ht4]; rfl) (rn_lss k rfl rfl)
          · exact gv rfl rfl (rn_pick k rfl (by rw [ht4]; rfl))
        · rintro vals w5 hvl rfl
          refine qk_thn ?_
          by_cases hle : qs[j].1.1 < u[i].1
          · refine wc_yes rfl (by simpa using hle) ?_
            repeat first|(with_reducible first|apply wc_seq|apply wc_region|apply wl_nil|apply qk_thn|apply wc_block|apply wc_skip|apply wc_ret|apply wc_exit|apply qk_thn_ret|apply qk_in_ret|apply qk_in|apply qk_thn_exit|apply qk_in_exit|apply qk_round_ret|apply qk_round_exit)|((with_reducible apply ws);exact rfl;exact rfl)|((with_reducible apply wl_yes);exact rfl;exact rfl;exact rfl)|((with_reducible apply wl_no);exact rfl;exact rfl;exact rfl;exact rfl)|((with_reducible apply wl_noU);exact rfl;exact rfl;exact rfl)
            refine wl_add rfl rfl rfl (r := ((j + 1 : Nat) : Int)) (by rw [IntKind.wrap_i64]; omega) ?_
            repeat first|(with_reducible first|apply wc_seq|apply wc_region|apply wl_nil|apply qk_thn|apply wc_block|apply wc_skip|apply wc_ret|apply wc_exit|apply qk_thn_ret|apply qk_in_ret|apply qk_in|apply qk_thn_exit|apply qk_in_exit|apply qk_round_ret|apply qk_round_exit)|((with_reducible apply ws);exact rfl;exact rfl)|((with_reducible apply wl_yes);exact rfl;exact rfl;exact rfl)|((with_reducible apply wl_no);exact rfl;exact rfl;exact rfl;exact rfl)|((with_reducible apply wl_noU);exact rfl;exact rfl;exact rfl)
            refine qk_round (j + 1) ⟨rfl, rfl, rfl, rfl, rfl, rfl, rfl, trivial⟩ ⟨by omega, ?_, hw4.drew, hrow4, hb4⟩ (by omega)
            intro q hq hqj
            by_cases hqe : q = j
            · subst hqe; exact hle
            · exact hbef q hq (by omega)
          · refine wc_no rfl (by simpa using hle) ?_
            repeat first|(with_reducible first|apply wc_seq|apply wc_region|apply wl_nil|apply qk_thn|apply wc_block|apply wc_skip|apply wc_ret|apply wc_exit|apply qk_thn_ret|apply qk_in_ret|apply qk_in|apply qk_thn_exit|apply qk_in_exit|apply qk_round_ret|apply qk_round_exit)|((with_reducible apply ws);exact rfl;exact rfl)|((with_reducible apply wl_yes);exact rfl;exact rfl;exact rfl)|((with_reducible apply wl_no);exact rfl;exact rfl;exact rfl;exact rfl)|((with_reducible apply wl_noU);exact rfl;exact rfl;exact rfl)
            exact qk_cut j ⟨rfl, rfl, rfl, rfl, rfl, rfl, rfl, trivial⟩ ⟨hj, hbef, fun _ => hle, hw4.drew, hrow4, hb4⟩
      · have hjn : j = qs.length := by omega
        have ht4 : decide ((j : Int) < (qs.length : Int)) = false := by simpa using hjl
        refine wc_par [(0, .int .i64 (j : Int)), (1, .slice ad qs.length cd), (2, .int .i64 (qs.length : Int)), (3, .bool (decide ((j : Int) < (qs.length : Int)))), (4, .bool (decide ((j : Int) < (qs.length : Int)))), (5, undef), (6, undef), (7, undef), (8, undef), (9, undef), (10, undef), (11, undef), (12, undef), (13, .bool false)] []
          (fun _ w' => w' = w4.drew)
          mixed rfl rfl rfl rfl rfl (by show ([0,1,2,3,4,5,6,7,8,9,10,11,12,13] : List Nat).Nodup; decide) rfl rfl (by decide) rfl rfl rfl rfl rfl ?_ trivial ?_
        · intro p hp vals w' hC a k
          subst hC
          simp only [List.mem_cons, List.not_mem_nil, or_false] at hp
          rcases hp with rfl | rfl | rfl | rfl | rfl | rfl | rfl | rfl | rfl | rfl | rfl | rfl | rfl | rfl
          · exact gv rfl rfl (rn_move k rfl)
          · exact gv rfl rfl (rn_move k rfl)
          · exact gv rfl rfl (rn_len k rfl el_tags)
          · exact gv rfl rfl (rn_lss k rfl rfl)
          · exact gv rfl rfl (rn_move k rfl)
          iterate 8 (exact gv_no rfl rfl rfl k rfl (by rw [ht4]; rfl))
          · exact gv rfl rfl (rn_pick k rfl (by rw [ht4]; rfl))
        · rintro vals w5 hvl rfl
          refine qk_thn ?_
          refine wc_no rfl rfl ?_
          repeat first|(with_reducible first|apply wc_seq|apply wc_region|apply wl_nil|apply qk_thn|apply wc_block|apply wc_skip|apply wc_ret|apply wc_exit|apply qk_thn_ret|apply qk_in_ret|apply qk_in|apply qk_thn_exit|apply qk_in_exit|apply qk_round_ret|apply qk_round_exit)|((with_reducible apply ws);exact rfl;exact rfl)|((with_reducible apply wl_yes);exact rfl;exact rfl;exact rfl)|((with_reducible apply wl_no);exact rfl;exact rfl;exact rfl;exact rfl)|((with_reducible apply wl_noU);exact rfl;exact rfl;exact rfl)
          exact qk_cut j ⟨rfl, rfl, rfl, rfl, rfl, rfl, rfl, trivial⟩ ⟨hj, hbef, fun h => absurd h hjl, hw4.drew, hrow4, hb4⟩
    rintro j w4 ⟨hj, hbef, hnot, hw4, hrow4, hb4⟩
    obtain ⟨ad, cd, hde⟩ := Row.shape hrow4
    subst hde
    have hjl' : j ≤ ((u.take i).foldl (step (known fs)) []).length := by rw [tg_len hsay]; exact hj
    have hput := putTag_at u[i].1 u[i].2 ((u.take i).foldl (step (known fs)) []) j hjl'
      (fun q hq hqj => by rw [tg_get hsay (by rw [← tg_len hsay]; exact hq) hq]; exact hbef q _ hqj)
      (fun h => by rw [tg_get hsay (by rw [← tg_len hsay]; exact h) h]; exact hnot _)
    refine wc_cut (α := Unit) (fun _ => [(19, .int .i64 (i : Int)), (18, .int .i64 ((min u.length Most : Nat) : Int)), (17, .slice (some ⟨b, off, none⟩) (min u.length Most) cu), (9, .int .i64 (j : Int)), (8, .pointer (some ⟨w1.heap.size, 0, none⟩)), (6, .slice ad qs.length cd), (5, .int .u32 (known fs : Nat))])
      (fun _ w' => known fs ≤ u[i].1 ∧ (∀ h : j < qs.length, qs[j].1.1 ≠ u[i].1) ∧ w' = w4.drew) ?_ ?_
    · refine wc_seq ?_
      by_cases hk : u[i].1 < known fs
      · have ht4 : decide ((u[i].1 : Int) < (known fs : Int)) = true := by simpa using hk
        refine wc_par [(0, .pointer (some ⟨w1.heap.size, 0 + 0, none⟩)), (1, .int .u32 (u[i].1 : Nat)), (2, .int .u32 (known fs : Nat)), (3, .bool (decide ((u[i].1 : Int) < (known fs : Int)))), (4, .bool (decide ((u[i].1 : Int) < (known fs : Int)))), (5, undef), (6, undef), (7, undef), (8, undef), (9, undef), (10, undef), (11, undef), (12, undef), (13, undef), (14, undef), (15, undef), (16, undef), (17, undef), (18, undef), (19, .bool true)] []
          (fun _ w' => w' = w4.drew) mixed rfl rfl rfl rfl rfl (by show ([0,1,2,3,4,5,6,7,8,9,10,11,12,13,14,15,16,17,18,19] : List Nat).Nodup; decide) rfl rfl (by decide) rfl rfl rfl rfl rfl ?_ trivial ?_
        · intro p hp vals w' hC a k
          subst hC
          simp only [List.mem_cons, List.not_mem_nil, or_false] at hp
          rcases hp with rfl | rfl | rfl | rfl | rfl | rfl | rfl | rfl | rfl | rfl | rfl | rfl | rfl | rfl | rfl | rfl | rfl | rfl | rfl | rfl
          · exact gv rfl rfl (rn_fieldAddr k rfl fo_tag0)
          · exact gv rfl rfl (rn_load k rfl to_u32 (hb4.cell0 (i := 0) rfl))
          · exact gv rfl rfl (rn_move k rfl)
          · exact gv rfl rfl (rn_lss k rfl rfl)
          · exact gv rfl rfl (rn_move k rfl)
          iterate 5 (exact gv_no rfl rfl rfl k rfl (by rw [ht4]; rfl))
          iterate 8 (exact gv_noU rfl rfl rfl k rfl)
          · exact gv_no rfl rfl rfl k rfl (by rw [ht4]; rfl)
          · exact gv rfl rfl (rn_pick k rfl (by rw [ht4]; rfl))
        · rintro vals w5 hvl rfl
          refine qk_thn ?_
          refine wc_yes rfl rfl ?_
          repeat first|(with_reducible first|apply wc_seq|apply wc_region|apply wl_nil|apply qk_thn|apply wc_block|apply wc_skip|apply wc_ret|apply wc_exit|apply qk_thn_ret|apply qk_in_ret|apply qk_in|apply qk_thn_exit|apply qk_in_exit|apply qk_round_ret|apply qk_round_exit)|((with_reducible apply ws);exact rfl;exact rfl)|((with_reducible apply wl_yes);exact rfl;exact rfl;exact rfl)|((with_reducible apply wl_no);exact rfl;exact rfl;exact rfl;exact rfl)|((with_reducible apply wl_noU);exact rfl;exact rfl;exact rfl)
          refine wl_add rfl rfl rfl (r := ((i + 1 : Nat) : Int)) (by rw [IntKind.wrap_i64]; omega) ?_
          repeat first|(with_reducible first|apply wc_seq|apply wc_region|apply wl_nil|apply qk_thn|apply wc_block|apply wc_skip|apply wc_ret|apply wc_exit|apply qk_thn_ret|apply qk_in_ret|apply qk_in|apply qk_thn_exit|apply qk_in_exit|apply qk_round_ret|apply qk_round_exit)|((with_reducible apply ws);exact rfl;exact rfl)|((with_reducible apply wl_yes);exact rfl;exact rfl;exact rfl)|((with_reducible apply wl_no);exact rfl;exact rfl;exact rfl;exact rfl)|((with_reducible apply wl_noU);exact rfl;exact rfl;exact rfl)
          refine qk_round ⟨i + 1, .slice ad qs.length cd, qs⟩ ⟨rfl, rfl, rfl, rfl, rfl, trivial⟩ ⟨by simp only []; omega, hw4.drew, hrow4, ?_, hat⟩ (by simp only []; omega)
          rw [hsay, hsn, step, if_pos hk]
      · have ht4 : decide ((u[i].1 : Int) < (known fs : Int)) = false := by simpa using hk
        by_cases hjl : j < qs.length
        · obtain ⟨g, cap, hde, hg1, hg2', hca⟩ := Row.cells hrow4 (by omega)
          simp only [Value.slice.injEq, true_and] at hde
          obtain ⟨rfl, rfl⟩ := hde
          have hcj := tcells_at hca hjl
          have ht8 : decide ((j : Int) < (qs.length : Int)) = true := by simpa using hjl
          refine wc_par [(0, .pointer (some ⟨w1.heap.size, 0 + 0, none⟩)), (1, .int .u32 (u[i].1 : Nat)), (2, .int .u32 (known fs : Nat)), (3, .bool (decide ((u[i].1 : Int) < (known fs : Int)))), (4, .bool (decide ((u[i].1 : Int) < (known fs : Int)))), (5, .int .i64 (j : Int)), (6, .slice (some ⟨g, 0, none⟩) qs.length cd), (7, .int .i64 (qs.length : Int)), (8, .bool (decide ((j : Int) < (qs.length : Int)))), (9, .bool (decide ((j : Int) < (qs.length : Int)))), (10, .slice (some ⟨g, 0, none⟩) qs.length cd), (11, .int .i64 (j : Int)), (12, .pointer (some ⟨g, 0 + j * 2, none⟩)), (13, .pointer (some ⟨g, 0 + j * 2 + 0, none⟩)), (14, .int .u32 (qs[j].1.1 : Nat)), (15, .pointer (some ⟨w1.heap.size, 0 + 0, none⟩)), (16, .int .u32 (u[i].1 : Nat)), (17, .bool ((qs[j].1.1 : Int) == (u[i].1 : Int))), (18, .bool ((qs[j].1.1 : Int) == (u[i].1 : Int))), (19, .bool ((qs[j].1.1 : Int) == (u[i].1 : Int)))] []
            (fun _ w' => w' = w4.drew) mixed rfl rfl rfl rfl rfl (by show ([0,1,2,3,4,5,6,7,8,9,10,11,12,13,14,15,16,17,18,19] : List Nat).Nodup; decide) rfl rfl (by decide) rfl rfl rfl rfl rfl ?_ trivial ?_
          · intro p hp vals w' hC a k
            subst hC
            simp only [List.mem_cons, List.not_mem_nil, or_false] at hp
            rcases hp with rfl | rfl | rfl | rfl | rfl | rfl | rfl | rfl | rfl | rfl | rfl | rfl | rfl | rfl | rfl | rfl | rfl | rfl | rfl | rfl
            · exact gv rfl rfl (rn_fieldAddr k rfl fo_tag0)
            · exact gv rfl rfl (rn_load k rfl to_u32 (hb4.cell0 (i := 0) rfl))
            · exact gv rfl rfl (rn_move k rfl)
            · exact gv rfl rfl (rn_lss k rfl rfl)
            · exact gv rfl rfl (rn_move k rfl)
            · exact gv_yes rfl rfl rfl k rfl (by rw [ht4]; rfl) (rn_move k rfl)
            · exact gv_yes rfl rfl rfl k rfl (by rw [ht4]; rfl) (rn_move k rfl)
            · exact gv_yes rfl rfl rfl k rfl (by rw [ht4]; rfl) (rn_len k rfl el_tags)
            · exact gv_yes rfl rfl rfl k rfl (by rw [ht4]; rfl) (rn_lss k rfl rfl)
            · exact gv_yes rfl rfl rfl k rfl (by rw [ht4]; rfl) (rn_move k rfl)
            · exact gv_yes rfl rfl rfl k rfl (by rw [ht8]; rfl) (rn_move k rfl)
            · exact gv_yes rfl rfl rfl k rfl (by rw [ht8]; rfl) (rn_move k rfl)
            · exact gv_yes rfl rfl rfl k rfl (by rw [ht8]; rfl) (rn_indexAddr k rfl rfl es_tags hjl)
            · exact gv_yes rfl rfl rfl k rfl (by rw [ht8]; rfl) (rn_fieldAddr k rfl fo_tag0)
            · exact gv_yes rfl rfl rfl k rfl (by rw [ht8]; rfl) (rn_load k rfl to_u32 (hcj.cell (i := 0) rfl))
            · exact gv_yes rfl rfl rfl k rfl (by rw [ht8]; rfl) (rn_fieldAddr k rfl fo_tag0)
            · exact gv_yes rfl rfl rfl k rfl (by rw [ht8]; rfl) (rn_load k rfl to_u32 (hb4.cell0 (i := 0) rfl))
            · exact gv_yes rfl rfl rfl k rfl (by rw [ht8]; rfl) (rn_eql k rfl rfl)
            · exact gv_yes rfl rfl rfl k rfl (by rw [ht4]; rfl) (rn_pick k rfl (by rw [ht8]; rfl))
            · exact gv rfl rfl (rn_pick k rfl (by rw [ht4]; rfl))
          · rintro vals w5 hvl rfl
            refine qk_thn ?_
            by_cases hq : qs[j].1.1 = u[i].1
            · refine wc_yes rfl (by simp [hq]) ?_
              repeat first|(with_reducible first|apply wc_seq|apply wc_region|apply wl_nil|apply qk_thn|apply wc_block|apply wc_skip|apply wc_ret|apply wc_exit|apply qk_thn_ret|apply qk_in_ret|apply qk_in|apply qk_thn_exit|apply qk_in_exit|apply qk_round_ret|apply qk_round_exit)|((with_reducible apply ws);exact rfl;exact rfl)|((with_reducible apply wl_yes);exact rfl;exact rfl;exact rfl)|((with_reducible apply wl_no);exact rfl;exact rfl;exact rfl;exact rfl)|((with_reducible apply wl_noU);exact rfl;exact rfl;exact rfl)
              refine wl_add rfl rfl rfl (r := ((i + 1 : Nat) : Int)) (by rw [IntKind.wrap_i64]; omega) ?_
              repeat first|(with_reducible first|apply wc_seq|apply wc_region|apply wl_nil|apply qk_thn|apply wc_block|apply wc_skip|apply wc_ret|apply wc_exit|apply qk_thn_ret|apply qk_in_ret|apply qk_in|apply qk_thn_exit|apply qk_in_exit|apply qk_round_ret|apply qk_round_exit)|((with_reducible apply ws);exact rfl;exact rfl)|((with_reducible apply wl_yes);exact rfl;exact rfl;exact rfl)|((with_reducible apply wl_no);exact rfl;exact rfl;exact rfl;exact rfl)|((with_reducible apply wl_noU);exact rfl;exact rfl;exact rfl)
              refine qk_round ⟨i + 1, .slice (some ⟨g, 0, none⟩) qs.length cd, qs⟩ ⟨rfl, rfl, rfl, rfl, rfl, trivial⟩ ⟨by simp only []; omega, hw4.drew, hrow4, ?_, hat⟩ (by simp only []; omega)
              rw [hsn, step, if_neg hk, hput, if_pos, hsay]
              have hjl2 : j < ((u.take i).foldl (step (known fs)) []).length := by rw [tg_len hsay]; exact hjl
              exact ⟨hjl2, by rw [tg_get hsay hjl hjl2]; exact hq⟩
            · refine wc_no rfl (by simp only [beq_eq_false_iff_ne]; omega) ?_
              repeat first|(with_reducible first|apply wc_seq|apply wc_region|apply wl_nil|apply qk_thn|apply wc_block|apply wc_skip|apply wc_ret|apply wc_exit|apply qk_thn_ret|apply qk_in_ret|apply qk_in|apply qk_thn_exit|apply qk_in_exit|apply qk_round_ret|apply qk_round_exit)|((with_reducible apply ws);exact rfl;exact rfl)|((with_reducible apply wl_yes);exact rfl;exact rfl;exact rfl)|((with_reducible apply wl_no);exact rfl;exact rfl;exact rfl;exact rfl)|((with_reducible apply wl_noU);exact rfl;exact rfl;exact rfl)
              exact qk_cut () ⟨rfl, rfl, rfl, rfl, rfl, rfl, rfl, trivial⟩ ⟨by omega, fun _ => hq, rfl⟩
        · have ht8 : decide ((j : Int) < (qs.length : Int)) = false := by simpa using hjl
          refine wc_par [(0, .pointer (some ⟨w1.heap.size, 0 + 0, none⟩)), (1, .int .u32 (u[i].1 : Nat)), (2, .int .u32 (known fs : Nat)), (3, .bool (decide ((u[i].1 : Int) < (known fs : Int)))), (4, .bool (decide ((u[i].1 : Int) < (known fs : Int)))), (5, .int .i64 (j : Int)), (6, .slice ad qs.length cd), (7, .int .i64 (qs.length : Int)), (8, .bool (decide ((j : Int) < (qs.length : Int)))), (9, .bool (decide ((j : Int) < (qs.length : Int)))), (10, undef), (11, undef), (12, undef), (13, undef), (14, undef), (15, undef), (16, undef), (17, undef), (18, .bool false), (19, .bool false)] []
            (fun _ w' => w' = w4.drew) mixed rfl rfl rfl rfl rfl (by show ([0,1,2,3,4,5,6,7,8,9,10,11,12,13,14,15,16,17,18,19] : List Nat).Nodup; decide) rfl rfl (by decide) rfl rfl rfl rfl rfl ?_ trivial ?_
          · intro p hp vals w' hC a k
            subst hC
            simp only [List.mem_cons, List.not_mem_nil, or_false] at hp
            rcases hp with rfl | rfl | rfl | rfl | rfl | rfl | rfl | rfl | rfl | rfl | rfl | rfl | rfl | rfl | rfl | rfl | rfl | rfl | rfl | rfl
            · exact gv rfl rfl (rn_fieldAddr k rfl fo_tag0)
            · exact gv rfl rfl (rn_load k rfl to_u32 (hb4.cell0 (i := 0) rfl))
            · exact gv rfl rfl (rn_move k rfl)
            · exact gv rfl rfl (rn_lss k rfl rfl)
            · exact gv rfl rfl (rn_move k rfl)
            · exact gv_yes rfl rfl rfl k rfl (by rw [ht4]; rfl) (rn_move k rfl)
            · exact gv_yes rfl rfl rfl k rfl (by rw [ht4]; rfl) (rn_move k rfl)
            · exact gv_yes rfl rfl rfl k rfl (by rw [ht4]; rfl) (rn_len k rfl el_tags)
            · exact gv_yes rfl rfl rfl k rfl (by rw [ht4]; rfl) (rn_lss k rfl rfl)
            · exact gv_yes rfl rfl rfl k rfl (by rw [ht4]; rfl) (rn_move k rfl)
            iterate 8 (exact gv_no rfl rfl rfl k rfl (by rw [ht8]; rfl))
            · exact gv_yes rfl rfl rfl k rfl (by rw [ht4]; rfl) (rn_pick k rfl (by rw [ht8]; rfl))
            · exact gv rfl rfl (rn_pick k rfl (by rw [ht4]; rfl))
          · rintro vals w5 hvl rfl
            refine qk_thn ?_
            refine wc_no rfl rfl ?_
            repeat first|(with_reducible first|apply wc_seq|apply wc_region|apply wl_nil|apply qk_thn|apply wc_block|apply wc_skip|apply wc_ret|apply wc_exit|apply qk_thn_ret|apply qk_in_ret|apply qk_in|apply qk_thn_exit|apply qk_in_exit|apply qk_round_ret|apply qk_round_exit)|((with_reducible apply ws);exact rfl;exact rfl)|((with_reducible apply wl_yes);exact rfl;exact rfl;exact rfl)|((with_reducible apply wl_no);exact rfl;exact rfl;exact rfl;exact rfl)|((with_reducible apply wl_noU);exact rfl;exact rfl;exact rfl)
            exact qk_cut () ⟨rfl, rfl, rfl, rfl, rfl, rfl, rfl, trivial⟩ ⟨by omega, fun h => absurd h hjl, rfl⟩
    rintro _ w5 ⟨hk, hne, rfl⟩
    have hins : (u.take (i + 1)).foldl (step (known fs)) [] = ((u.take i).foldl (step (known fs)) []).take j ++ (u[i].1, u[i].2) :: ((u.take i).foldl (step (known fs)) []).drop j := by
      rw [hsn, step, if_neg (by omega), hput, if_neg]
      rintro ⟨h1, h2⟩
      have h1' : j < qs.length := by rw [← tg_len hsay]; exact h1
      rw [tg_get hsay h1' h1] at h2
      exact hne h1' h2
    have hdlt4 := fun g hg => World.ownsRow.lt hrow4 g hg
    have hsz4 : w1.heap.size < w4.heap.size := hb4.lt
    repeat first|(with_reducible first|apply wc_seq|apply wc_region|apply wl_nil|apply qk_thn|apply wc_block|apply wc_skip|apply wc_ret|apply wc_exit|apply qk_thn_ret|apply qk_in_ret|apply qk_in|apply qk_thn_exit|apply qk_in_exit|apply qk_round_ret|apply qk_round_exit)|((with_reducible apply ws);exact rfl;exact rfl)|((with_reducible apply wl_yes);exact rfl;exact rfl;exact rfl)|((with_reducible apply wl_no);exact rfl;exact rfl;exact rfl;exact rfl)|((with_reducible apply wl_noU);exact rfl;exact rfl;exact rfl)
    refine wl_build rfl (cs := [.int .u32 0, .slice none 0 0]) (by kernel_rfl) rfl ?_
    refine wl_app1 (by kernel_rfl) rfl rfl rfl rfl rfl rfl rfl rfl hrow4 (by simp; omega) (by simp only [many]; omega) (fun d' w5 hrow5 hg5 => ?_)
    have hrow6 : w5.ownsRow w.heap.size 56 2 d' (qs.length + 1) (tcells (qs.take qs.length ++ (((0, []), .slice none 0 0) : Tg) :: qs.drop qs.length)) := by
      rw [List.take_length, List.drop_length, tcells_append]; exact hrow5
    have hb5 : Box w5 w1.heap.size [.int .u32 u[i].1, sv] 56 := Box.kept (w := w4.drew) hb4 hg5.grown (fun e => by have := (hdlt _ e.symm).2; omega)
    have hw5 : Below w.heap.size w w5 := hw4.drew.trans (hg5.below (by simp; omega) (fun g hg => (hdlt4 g hg).1))
    obtain ⟨g, cap, hde, hgB, hglt, _⟩ := Row.cells hrow5 (by omega)
    subst hde
    have hgne : g ≠ w1.heap.size := by
      rcases hg5.fresh with h | h
      · exact fun e => by have := (hdlt g (by rw [← h]; rfl)).2; omega
      · exact fun e => by have h3 : w4.heap.size ≤ g := h g rfl; omega
    repeat first|(with_reducible first|apply wc_seq|apply wc_region|apply wl_nil|apply qk_thn|apply wc_block|apply wc_skip|apply wc_ret|apply wc_exit|apply qk_thn_ret|apply qk_in_ret|apply qk_in|apply qk_thn_exit|apply qk_in_exit|apply qk_round_ret|apply qk_round_exit)|((with_reducible apply ws);exact rfl;exact rfl)|((with_reducible apply wl_yes);exact rfl;exact rfl;exact rfl)|((with_reducible apply wl_no);exact rfl;exact rfl;exact rfl;exact rfl)|((with_reducible apply wl_noU);exact rfl;exact rfl;exact rfl)
    refine wl_sub' rfl rfl rfl (r := (qs.length : Int)) (by rw [IntKind.wrap_i64]; omega) ?_
    repeat first|(with_reducible first|apply wc_seq|apply wc_region|apply wl_nil|apply qk_thn|apply wc_block|apply wc_skip|apply wc_ret|apply wc_exit|apply qk_thn_ret|apply qk_in_ret|apply qk_in|apply qk_thn_exit|apply qk_in_exit|apply qk_round_ret|apply qk_round_exit)|((with_reducible apply ws);exact rfl;exact rfl)|((with_reducible apply wl_yes);exact rfl;exact rfl;exact rfl)|((with_reducible apply wl_no);exact rfl;exact rfl;exact rfl;exact rfl)|((with_reducible apply wl_noU);exact rfl;exact rfl;exact rfl)
    refine wc_loop (α := Nat) (fun k => [(19, .int .i64 (i : Int)), (18, .int .i64 ((min u.length Most : Nat) : Int)), (17, .slice (some ⟨b, off, none⟩) (min u.length Most) cu), (9, .int .i64 (j : Int)), (8, .pointer (some ⟨w1.heap.size, 0, none⟩)), (6, .slice (some ⟨g, 0, none⟩) (qs.length + 1) cap), (5, .int .u32 (known fs : Nat)), (10, .int .i64 (k : Int))])
      (fun k w' => j ≤ k ∧ k ≤ qs.length ∧ Below w.heap.size w w' ∧ (∃ x : Tg, w'.ownsRow w.heap.size 56 2 (.slice (some ⟨g, 0, none⟩) (qs.length + 1) cap) (qs.length + 1) (tcells (qs.take k ++ x :: qs.drop k))) ∧ Box w' w1.heap.size [.int .u32 u[i].1, sv] 56) (fun k => k - j) qs.length ⟨rfl, rfl, rfl, rfl, rfl, rfl, rfl, rfl, trivial⟩ ⟨hj, Nat.le_refl _, hw5, ⟨_, hrow6⟩, hb5⟩ ?_
    rintro k w6 ⟨hjk, hkq, hw6, ⟨x, hrow6⟩, hb6⟩
    repeat first|(with_reducible first|apply wc_seq|apply wc_region|apply wl_nil|apply qk_thn|apply wc_block|apply wc_skip|apply wc_ret|apply wc_exit|apply qk_thn_ret|apply qk_in_ret|apply qk_in|apply qk_thn_exit|apply qk_in_exit|apply qk_round_ret|apply qk_round_exit)|((with_reducible apply ws);exact rfl;exact rfl)|((with_reducible apply wl_yes);exact rfl;exact rfl;exact rfl)|((with_reducible apply wl_no);exact rfl;exact rfl;exact rfl;exact rfl)|((with_reducible apply wl_noU);exact rfl;exact rfl;exact rfl)
    have hll : (qs.take k ++ x :: qs.drop k).length = qs.length + 1 := by simp; omega
    by_cases hkj : j < k
    · refine wc_yes rfl (by simpa using hkj) ?_
      obtain ⟨k, rfl⟩ : ∃ k', k = k' + 1 := ⟨k - 1, by omega⟩
      repeat first|(with_reducible first|apply wc_seq|apply wc_region|apply wl_nil|apply qk_thn|apply wc_block|apply wc_skip|apply wc_ret|apply wc_exit|apply qk_thn_ret|apply qk_in_ret|apply qk_in|apply qk_thn_exit|apply qk_in_exit|apply qk_round_ret|apply qk_round_exit)|((with_reducible apply ws);exact rfl;exact rfl)|((with_reducible apply wl_yes);exact rfl;exact rfl;exact rfl)|((with_reducible apply wl_no);exact rfl;exact rfl;exact rfl;exact rfl)|((with_reducible apply wl_noU);exact rfl;exact rfl;exact rfl)
      refine wl_sub' rfl rfl rfl (r := (k : Int)) (by rw [IntKind.wrap_i64]; omega) ?_
      refine wl_indexAddr rfl rfl es_tags rfl (by omega) ?_
      obtain ⟨g2, cap2, hde2, _, _, hca⟩ := Row.cells hrow6 (by omega)
      cases hde2
      have hcj := tcells_at hca (j := k) (by omega)
      rw [List.getElem_append_left (by simp; omega)] at hcj
      refine wl_loadAgg (cs := [.int .u32 ((qs.take (k + 1))[k]'(by simp; omega)).1.1, ((qs.take (k + 1))[k]'(by simp; omega)).2]) rfl ta_tag rfl (fun j v e => hcj.cell e) ?_
      refine wl_indexAddr rfl rfl es_tags rfl (by omega) ?_
      have hone2 : (([.int .u32 ((qs.take (k + 1))[k]'(by simp; omega)).1.1, ((qs.take (k + 1))[k]'(by simp; omega)).2] : List Value).all fun v => v.oneCell') = true := by
        obtain ⟨a3, c3, h3, _⟩ := (hat ((qs.take (k + 1))[k]'(by simp; omega)) (List.mem_of_mem_take (List.getElem_mem _))).shape
        rw [h3]; rfl
      refine wl_storeRow (sz := 2) (cs := [.int .u32 ((qs.take (k + 1))[k]'(by simp; omega)).1.1, ((qs.take (k + 1))[k]'(by simp; omega)).2]) hrow6 rfl rfl rfl rfl tz_tag hone2 (by omega) (fun w7 hrow7 hg7 hs7 => ?_)
      rw [tcells_set _ (by omega)] at hrow7
      have hsh := shift_step qs x (k := k) (by omega)
      rw [List.getElem_take] at hrow7
      rw [hsh] at hrow7
      repeat first|(with_reducible first|apply wc_seq|apply wc_region|apply wl_nil|apply qk_thn|apply wc_block|apply wc_skip|apply wc_ret|apply wc_exit|apply qk_thn_ret|apply qk_in_ret|apply qk_in|apply qk_thn_exit|apply qk_in_exit|apply qk_round_ret|apply qk_round_exit)|((with_reducible apply ws);exact rfl;exact rfl)|((with_reducible apply wl_yes);exact rfl;exact rfl;exact rfl)|((with_reducible apply wl_no);exact rfl;exact rfl;exact rfl;exact rfl)|((with_reducible apply wl_noU);exact rfl;exact rfl;exact rfl)
      refine wl_sub' rfl rfl rfl (r := (k : Int)) (by rw [IntKind.wrap_i64]; omega) ?_
      repeat first|(with_reducible first|apply wc_seq|apply wc_region|apply wl_nil|apply qk_thn|apply wc_block|apply wc_skip|apply wc_ret|apply wc_exit|apply qk_thn_ret|apply qk_in_ret|apply qk_in|apply qk_thn_exit|apply qk_in_exit|apply qk_round_ret|apply qk_round_exit)|((with_reducible apply ws);exact rfl;exact rfl)|((with_reducible apply wl_yes);exact rfl;exact rfl;exact rfl)|((with_reducible apply wl_no);exact rfl;exact rfl;exact rfl;exact rfl)|((with_reducible apply wl_noU);exact rfl;exact rfl;exact rfl)
      have hs6 := hw6.size
      exact qk_round k ⟨rfl, rfl, rfl, rfl, rfl, rfl, rfl, rfl, trivial⟩ ⟨by omega, by omega, hw6.trans (below_of hg7 hs6 (by intro q hq; simp at hq; omega)), ⟨_, hrow7⟩, hb6.kept hg7 (by simp; omega)⟩ (by omega)
    · have hkj' : k = j := by omega
      subst hkj'
      refine wc_no rfl (by simp) ?_
      repeat first|(with_reducible first|apply wc_seq|apply wc_region|apply wl_nil|apply qk_thn|apply wc_block|apply wc_skip|apply wc_ret|apply wc_exit|apply qk_thn_ret|apply qk_in_ret|apply qk_in|apply qk_thn_exit|apply qk_in_exit|apply qk_round_ret|apply qk_round_exit)|((with_reducible apply ws);exact rfl;exact rfl)|((with_reducible apply wl_yes);exact rfl;exact rfl;exact rfl)|((with_reducible apply wl_no);exact rfl;exact rfl;exact rfl;exact rfl)|((with_reducible apply wl_noU);exact rfl;exact rfl;exact rfl)
      refine wl_loadBAgg (cs := [.int .u32 u[i].1, sv]) rfl ta_tag rfl hb6 ?_
      refine wl_indexAddr rfl rfl es_tags rfl (by omega) ?_
      refine wl_storeRow (sz := 2) (cs := [.int .u32 u[i].1, sv]) hrow6 rfl rfl rfl rfl tz_tag hone (by omega) (fun w7 hrow7 hg7 hs7 => ?_)
      have hset := tcells_set (qs.take k ++ x :: qs.drop k) (j := k) (by omega) ((u[i].1, u[i].2), sv)
      simp only [] at hset
      rw [hset, shift_end qs x _ hkq] at hrow7
      have hs6 := hw6.size
      repeat first|(with_reducible first|apply wc_seq|apply wc_region|apply wl_nil|apply qk_thn|apply wc_block|apply wc_skip|apply wc_ret|apply wc_exit|apply qk_thn_ret|apply qk_in_ret|apply qk_in|apply qk_thn_exit|apply qk_in_exit|apply qk_round_ret|apply qk_round_exit)|((with_reducible apply ws);exact rfl;exact rfl)|((with_reducible apply wl_yes);exact rfl;exact rfl;exact rfl)|((with_reducible apply wl_no);exact rfl;exact rfl;exact rfl;exact rfl)|((with_reducible apply wl_noU);exact rfl;exact rfl;exact rfl)
      refine wl_add rfl rfl rfl (r := ((i + 1 : Nat) : Int)) (by rw [IntKind.wrap_i64]; omega) ?_
      repeat first|(with_reducible first|apply wc_seq|apply wc_region|apply wl_nil|apply qk_thn|apply wc_block|apply wc_skip|apply wc_ret|apply wc_exit|apply qk_thn_ret|apply qk_in_ret|apply qk_in|apply qk_thn_exit|apply qk_in_exit|apply qk_round_ret|apply qk_round_exit)|((with_reducible apply ws);exact rfl;exact rfl)|((with_reducible apply wl_yes);exact rfl;exact rfl;exact rfl)|((with_reducible apply wl_no);exact rfl;exact rfl;exact rfl;exact rfl)|((with_reducible apply wl_noU);exact rfl;exact rfl;exact rfl)
      refine qk_round ⟨i + 1, .slice (some ⟨g, 0, none⟩) (qs.length + 1) cap, qs.take k ++ ((u[i].1, u[i].2), sv) :: qs.drop k⟩ ⟨rfl, rfl, rfl, rfl, rfl, trivial⟩ ⟨by simp only []; omega, hw6.trans (below_of hg7 hs6 (by intro q hq; simp at hq; omega)), ?_, ?_, ?_⟩ (by simp only []; omega)
      · simp only []
        rw [show (qs.take k ++ (((u[i].1, u[i].2), sv) : Tg) :: qs.drop k).length = qs.length + 1 from by simp; omega]
        exact hrow7
      · simp only []
        rw [hins, ← hsay, List.map_append, List.map_cons, List.map_take, List.map_drop]
      · intro q hq
        simp only [List.mem_append, List.mem_cons] at hq
        rcases hq with hq | rfl | hq
        · exact hat q (List.mem_of_mem_take hq)
        · exact hsv
        · exact hat q (List.mem_of_mem_drop hq)
  · refine wc_no rfl (by simpa using hlt) ?_
    repeat first|(with_reducible first|apply wc_seq|apply wc_region|apply wl_nil|apply qk_thn|apply wc_block|apply wc_skip|apply wc_ret|apply wc_exit|apply qk_thn_ret|apply qk_in_ret|apply qk_in|apply qk_thn_exit|apply qk_in_exit|apply qk_round_ret|apply qk_round_exit)|((with_reducible apply ws);exact rfl;exact rfl)|((with_reducible apply wl_yes);exact rfl;exact rfl;exact rfl)|((with_reducible apply wl_no);exact rfl;exact rfl;exact rfl;exact rfl)|((with_reducible apply wl_noU);exact rfl;exact rfl;exact rfl)
    refine qk_ret1 rfl rfl ⟨_, rfl, hw1, ?_⟩
    have hin : i = min u.length Most := by omega
    refine ⟨qs, hrow, ?_, hat⟩
    rw [hsay, hin]
    show _ = (u.take Most).foldl (step (known fs)) []
    rw [take_min]
theorem fn_unknown (fv uv : Value) (fs : List Fld) (u : List (Nat × List UInt8)) (B : Nat) (w : World) (hB : B ≤ w.heap.size) (hf : Sq B w fv (fs.map fldD)) (hu : Sq B w uv (u.map tagD)) (ht : ∀ f ∈ fs, f.tag < 2147483647) (hl : fs.length ≤ 1000000) :
    Fn 26 [fv, uv] w fun r w' => Sq w'.heap.size w' r ((unknown fs u).map tagD) := by
  refine (fn_unknownR fv uv fs u B w hB hf hu ht hl).mono ?_
  rintro e w1 ⟨v, rfl, hw1, qs, hrow, hsay, hat⟩
  refine ⟨v, rfl, hw1, ?_⟩
  have hd : (unknown fs u).map tagD = qs.map fun q => tagD q.1 := by
    rw [← hsay, List.map_map]; rfl
  rw [hd]
  have hr := tcells_reps (B := w1.heap.size) (w := w1) qs (fun q hq => (hat q hq).below (hw1.mono hB) (by have := hw1.size; omega))
  exact Row.sq (ds := qs.map fun q => tagD q.1) (by simpa using hrow) hr (Nat.le_refl _)
end
end Go.Proofs.Ytaoecdeljfdmeaa
