/- Bytes: shifts and masks, a literal of bytes, appends of bytes. Over any program. -/
import Derived.Test.YtaoecdeljfdmeaaCode
import Derived.Test.YtaoecdeljfdmeaaPure
import Derived.Test.YtaoecdeljfdmeaaRep
namespace Go.Proofs.Ytaoecdeljfdmeaa
open Go Go.RowKit

/-- The type t is of slices of the one-cell, one-byte type u8. -/
def byteSl (P : Program) (t u8 : TypeId) : Bool :=
  (match P.underlying t with | some (.slice e) => Nat.beq e u8 | _ => false) &&
  (match P.info? u8 with | some i => Nat.beq i.size 1 && Nat.beq i.bytes 1 && (match i.zero with | some z => Nat.beq z.cells.size 1 | none => false) | none => false)
theorem byteSl_out {P : Program} {t u8 : TypeId} (h : byteSl P t u8 = true) :
    P.underlying t = some (.slice u8) ∧ ∃ i z, P.info? u8 = some i ∧ i.size = 1 ∧ i.bytes = 1 ∧ i.zero = some z ∧ z.cells.size = 1 := by
  unfold byteSl at h
  simp only [Bool.and_eq_true] at h
  obtain ⟨h1, h2⟩ := h
  constructor
  · split at h1
    · rename_i e he; have := beq_out h1; subst this; exact he
    · cases h1
  · split at h2
    · rename_i i hi
      simp only [Bool.and_eq_true] at h2
      obtain ⟨⟨h3, h4⟩, h5⟩ := h2
      split at h5
      · rename_i z hz; exact ⟨i, z, hi, beq_out h3, beq_out h4, hz, beq_out h5⟩
      · cases h5
    · cases h2

theorem lowByte_nat (z : Int) : ((lowByte z).toNat : Int) = z % 256 := by
  unfold lowByte
  have h1 : 0 ≤ z % 256 := Int.emod_nonneg _ (by omega)
  have h2 : z % 256 < 256 := Int.emod_lt_of_pos _ (by omega)
  rw [UInt8.toNat_ofNat_of_lt' (by show (z % 256).toNat < 256; omega)]
  omega
theorem wrap_u8 (z : Int) : IntKind.u8.wrap z = ((lowByte z).toNat : Int) := by
  rw [lowByte_nat, IntKind.wrap_u8]

section
variable {P : Program} {ops : Array Oper} {Q : Exit → Act → World → Prop} {N : Nat} {rest : List Oper} {L : Sl} {w : World} {d : Nat} {ty : TypeId} {pos : String} {aft : Array Edge}

theorem wl_shr {x : Operand} {t u : TypeId} {kk yk : IntKind} {m s r : Int} (hx : ev L x = some (.int kk m)) (hd : Nat.blt d N = true) (hs : decide (0 ≤ s) = true) (hr : m.fdiv (2 ^ (min s.toNat kk.bits)) = r) (h : WL rest P ops Q N ((d, .int kk r) :: L) w) :
    WL (⟨some d, .binOp .shr t x (.const (.int yk s)) u, ty, pos, aft, none⟩ :: rest) P ops Q N L w := by
  intro a k
  have hs' : ¬ s < 0 := by simp at hs; omega
  refine st_of (o := ⟨some d, .binOp .shr t x (.const (.int yk s)) u, ty, pos, aft, none⟩) rfl ?_ (h _ (k.put _ hd))
  simp only [execOp, k.eval hx, eval_const]
  simp [eqGuard, binOp, Op.shift, hs', hr]
theorem wl_bits {x : Operand} {t u : TypeId} {kk : IntKind} {m n : Int} {v : Value} {op : BinOp} (hx : ev L x = some (.int kk m)) {y : Operand} (hy : ev L y = some (.int kk n)) (hd : Nat.blt d N = true)
    (hop : op = .and ∨ op = .or) (hr : ∀ w : World, (Op.intBits op kk m n).run P w = .ok v w) (h : WL rest P ops Q N ((d, v) :: L) w) :
    WL (⟨some d, .binOp op t x y u, ty, pos, aft, none⟩ :: rest) P ops Q N L w := by
  intro a k
  refine st_of (o := ⟨some d, .binOp op t x y u, ty, pos, aft, none⟩) rfl ?_ (h _ (k.put _ hd))
  simp only [execOp, k.eval hx, k.eval hy]
  rcases hop with rfl | rfl <;> simp [eqGuard, binOp, hr]

/-- The parts of a literal, in order from j on. -/
def evp (L : Sl) : Nat → List (Nat × Operand) → Option (List Value)
  | _, [] => some []
  | j, p :: r => bif Nat.beq p.1 j then (match ev L p.2 with | some v => (match evp L (j + 1) r with | some vs => some (v :: vs) | none => none) | none => none) else none
theorem fill_bytes (f : Nat → Option (Nat × Nat)) (hf : ∀ i, f i = some (i, 1)) (vs : List Value) : ∀ (j : Nat) (pre : List Value) (z : List Value), (∀ v ∈ vs, v.cells = #[v]) → pre.length = j → z.length = vs.length →
    Instr.fill f (pre ++ z).toArray ((vs.zipIdx j).map fun p => (p.2, p.1)) = some (pre ++ vs).toArray := by
  induction vs with
  | nil => intro j pre z _ _ hz; have : z = [] := List.length_eq_zero_iff.1 hz; subst this; simp [Instr.fill]
  | cons v vs ih =>
    intro j pre z hv hp hz
    cases z with
    | nil => cases hz
    | cons y z =>
      have hv1 : v.cells = #[v] := hv v (by simp)
      simp only [List.zipIdx_cons, List.map_cons, Instr.fill, hf, hv1]
      rw [if_neg (by simp [hp])]
      have := ih (j + 1) (pre ++ [v]) z (fun u hu => hv u (by simp [hu])) (by simp [hp]) (by simpa using hz)
      simp only [List.append_assoc, List.singleton_append] at this
      rw [← this]
      congr 1
      rw [show (#[v] : Array Value).zipIdx = #[(v, 0)] from rfl]
      subst hp
      simp
theorem evp_spec {a : Act} (k : Kn N a L) : ∀ (ps : List (Nat × Operand)) (j : Nat) (vs : List Value), evp L j ps = some vs → ps.map (fun p => (p.1, a.eval p.2)) = (vs.zipIdx j).map fun p => (p.2, p.1)
  | [], j, vs, e => by simp [evp] at e; subst e; rfl
  | p :: r, j, vs, e => by
    simp only [evp] at e
    cases hb : Nat.beq p.1 j with
    | false => rw [hb] at e; simp at e
    | true =>
      rw [hb] at e
      simp only [cond_true] at e
      cases hv : ev L p.2 with
      | none => rw [hv] at e; simp at e
      | some v =>
        rw [hv] at e
        cases hr : evp L (j + 1) r with
        | none => rw [hr] at e; simp at e
        | some us =>
          rw [hr] at e
          simp at e
          subst e
          simp [List.zipIdx_cons, k.eval hv, beq_out hb, evp_spec k r (j + 1) us hr]
theorem bv_cells (ys : List UInt8) : ∀ v ∈ bv ys, v.cells = #[v] := by
  intro v hv
  simp only [bv, List.mem_map] at hv
  obtain ⟨c, _, rfl⟩ := hv
  rfl
/-- A literal of bytes, and its append to a slice that the call owns. -/
theorem wl_appLit {t u8 B n t1 : Nat} {ps : List (Nat × Operand)} {s : Operand} {dv : Value} {xs ys : List UInt8} {vs : List Value} {ty1 : TypeId} {pos1 : String} {aft1 : Array Edge}
    (hT : byteSl P t u8 = true) (hps : evp L 0 ps = some vs) (hvs : vs = bv ys) (hn : Nat.beq n ys.length = true) (hn1' : Nat.ble n 16777216 = true) (ht1 : Nat.blt t1 N = true) (hd : Nat.blt d N = true)
    (hs : ev ((t1, .slice (some ⟨w.heap.size, 0, none⟩) n n) :: L) s = some dv)
    (hown : Own w B u8 dv xs) (hB : B ≤ w.heap.size) (hlim : xs.length + ys.length ≤ lim)
    (h : ∀ d' w', Own w' B u8 d' (xs ++ ys) → Grew w w' dv d' → WL rest P ops Q N ((d, d') :: (t1, .slice (some ⟨w.heap.size, 0, none⟩) n n) :: L) w') :
    WL (⟨some t1, .buildSlice t n ps.toArray, ty1, pos1, aft1, none⟩ :: ⟨some d, .call ⟨.builtin .append, #[s, .tmp t1], #[t, t]⟩, ty, pos, aft, none⟩ :: rest) P ops Q N L w := by
  intro a k
  subst hvs
  have hn' := beq_out hn; subst hn'
  have hn1 := Nat.le_of_ble_eq_true hn1'
  obtain ⟨hu, i, z, hi, hs1, hb1, hz, hzc⟩ := byteSl_out hT
  obtain ⟨z0, hz0⟩ : ∃ z0, z.cells = #[z0] := by
    cases hzz : z.cells with
    | mk l => rw [hzz] at hzc; cases l with
      | nil => cases hzc
      | cons x r => cases r with | nil => exact ⟨x, rfl⟩ | cons _ _ => simp at hzc
  have hparts := evp_spec k ps 0 _ hps
  have hfill := fill_bytes (fun i => some (i * 1, 1)) (fun i => by simp) (bv ys) 0 [] (List.replicate ys.length z0) (bv_cells ys) rfl (by simp [bv_length])
  simp only [List.nil_append] at hfill
  refine st_of (o := ⟨some t1, .buildSlice t ys.length ps.toArray, ty1, pos1, aft1, none⟩) (v := .slice (some ⟨w.heap.size, 0, none⟩) ys.length ys.length) (w' := w.alloc (.cells (bv ys).toArray u8)) rfl ?_ ?_
  · have hsmall : ¬ (16777216 < ys.length) := by omega
    have hrow : (Array.map (fun x => #[z0][x % 1]!) (Array.range ys.length)) = (List.replicate ys.length z0).toArray := by
      apply Array.ext
      · simp
      · intro j h1 h2; simp [Nat.mod_one]
    have hm : (ps.toArray.map fun x => (x.1, a.eval x.2)).toList = ((bv ys).zipIdx 0).map fun p => (p.2, p.1) := by simpa using hparts
    simp only [execOp, Instr.buildSlice]
    simp only [Sem.run_bind, run_underlying hu, Result.andThen_ok, sizeOf, typeInfo, run_program, hi, Sem.run_pure, hs1, Nat.mul_one]
    rw [show ((2 : Nat) ^ 24) = 16777216 from rfl, if_neg (by omega)]
    by_cases h0 : ys.length = 0
    · have hy0 : ys = [] := List.length_eq_zero_iff.1 h0
      subst hy0
      have hp0 : ps = [] := by cases ps with | nil => rfl | cons p r => simp [bv] at hparts
      subst hp0
      simp [Instr.fill, newRow, bv]
      rw [show Array.range 0 = #[] from rfl, Array.map_empty]
    · simp only [h0, if_false]
      simp only [zeroValue, typeInfo, Sem.run_bind, run_program, Result.andThen_ok, hi, Sem.run_pure, hz, hz0]
      rw [show (#[z0] : Array Value).size = 1 from rfl, hrow, hm]
      simp only [Nat.mul_one] at hfill
      rw [hfill]
      simp [newRow]
  · have k1 := k.put (.slice (some ⟨w.heap.size, 0, none⟩) ys.length ys.length) ht1
    have hg : Own (w.alloc (.cells (bv ys).toArray u8)) B u8 dv xs := hown.alloc _
    obtain ⟨d', w', hr, ho, hgr⟩ := run_app (P := P) (w.alloc (.cells (bv ys).toArray u8)) B t t ty u8 i z (.slice u8) hu hu (.inl ⟨u8, rfl⟩) hi hz (by rw [hzc, hs1]) dv xs.length (bv xs) (by rw [hs1]; exact hg)
      (.slice (some ⟨w.heap.size, 0, none⟩) ys.length ys.length) ys.length (bv ys) (by rw [bv_length, hs1, Nat.mul_one]) (bv_one ys) (fun w' => by simp [Builtin.lenOf])
      (fun w' hw' => by
        refine run_firstCells_some (P := P) w' i.size ys.length _ _ _ (bv ys) (by rw [bv_length, hs1, Nat.mul_one]) (fun j v hv => ?_)
        have h1 : (w.alloc (.cells (bv ys).toArray u8)).cell? ⟨w.heap.size, j, none⟩ = some v := by rw [World.cell?_alloc_new]; simpa using hv
        rw [add_plain _ _ rfl]
        simp only [Nat.zero_add]
        rcases hw' with rfl | rfl
        · exact h1
        · exact h1)
      (by rw [hb1]; simpa using hlim) (by simp only [maxLen, lim] at *; omega) (by simp; omega)
    refine st_of (o := ⟨some d, .call ⟨.builtin .append, #[s, .tmp t1], #[t, t]⟩, ty, pos, aft, none⟩) (v := d') (w' := w') rfl ?_ (h d' w' ?_ ?_ _ (k1.put _ hd))
    · have e1 := k1.eval hs
      have e2 : (a.put (some t1) (.slice (some ⟨w.heap.size, 0, none⟩) ys.length ys.length)).eval (.tmp t1) = .slice (some ⟨w.heap.size, 0, none⟩) ys.length ys.length := k1.at_ t1 _ (by simp [lk, Nat.beq_refl])
      simp only [execOp, resolve, List.map_toArray, List.map_cons, List.map_nil, e1, e2, Sem.run_bind, Sem.run_pure, Result.andThen_ok, invoke, builtin, hr]
    · rw [hs1] at ho
      unfold Own
      rw [List.length_append, bv_append]; exact ho
    · exact Grew.trans ⟨World.grownBy_alloc w _ _, .inl rfl⟩ hgr
/-- A literal of bytes by itself: a new slice of the call's own. -/
theorem wl_lit {t u8 n : Nat} {ps : List (Nat × Operand)} {ys : List UInt8} {vs : List Value}
    (hT : byteSl P t u8 = true) (hps : evp L 0 ps = some vs) (hvs : vs = bv ys) (hn : Nat.beq n ys.length = true) (hn1' : Nat.ble n 16777216 = true) (hd : Nat.blt d N = true)
    (h : ∀ w', Own w' w.heap.size u8 (.slice (some ⟨w.heap.size, 0, none⟩) n n) ys → Below w.heap.size w w' → WL rest P ops Q N ((d, .slice (some ⟨w.heap.size, 0, none⟩) n n) :: L) w') :
    WL (⟨some d, .buildSlice t n ps.toArray, ty, pos, aft, none⟩ :: rest) P ops Q N L w := by
  intro a k
  subst hvs
  have hn' := beq_out hn; subst hn'
  have hn1 := Nat.le_of_ble_eq_true hn1'
  obtain ⟨hu, i, z, hi, hs1, hb1, hz, hzc⟩ := byteSl_out hT
  obtain ⟨z0, hz0⟩ : ∃ z0, z.cells = #[z0] := by
    cases hzz : z.cells with
    | mk l => rw [hzz] at hzc; cases l with
      | nil => cases hzc
      | cons x r => cases r with | nil => exact ⟨x, rfl⟩ | cons _ _ => simp at hzc
  have hparts := evp_spec k ps 0 _ hps
  have hfill := fill_bytes (fun i => some (i * 1, 1)) (fun i => by simp) (bv ys) 0 [] (List.replicate ys.length z0) (bv_cells ys) rfl (by simp [bv_length])
  simp only [List.nil_append] at hfill
  refine st_of (o := ⟨some d, .buildSlice t ys.length ps.toArray, ty, pos, aft, none⟩) (v := .slice (some ⟨w.heap.size, 0, none⟩) ys.length ys.length) (w' := w.alloc (.cells (bv ys).toArray u8)) rfl ?_ ?_
  · have hrow : (Array.map (fun x => #[z0][x % 1]!) (Array.range ys.length)) = (List.replicate ys.length z0).toArray := by
      apply Array.ext
      · simp
      · intro j h1 h2; simp [Nat.mod_one]
    have hm : (ps.toArray.map fun x => (x.1, a.eval x.2)).toList = ((bv ys).zipIdx 0).map fun p => (p.2, p.1) := by simpa using hparts
    simp only [execOp, Instr.buildSlice]
    simp only [Sem.run_bind, run_underlying hu, Result.andThen_ok, sizeOf, typeInfo, run_program, hi, Sem.run_pure, hs1, Nat.mul_one]
    rw [show ((2 : Nat) ^ 24) = 16777216 from rfl, if_neg (by omega)]
    by_cases h0 : ys.length = 0
    · have hy0 : ys = [] := List.length_eq_zero_iff.1 h0
      subst hy0
      have hp0 : ps = [] := by cases ps with | nil => rfl | cons p r => simp [bv] at hparts
      subst hp0
      simp [Instr.fill, newRow, bv]
      rw [show Array.range 0 = #[] from rfl, Array.map_empty]
    · simp only [h0, if_false]
      simp only [zeroValue, typeInfo, Sem.run_bind, run_program, Result.andThen_ok, hi, Sem.run_pure, hz, hz0]
      rw [show (#[z0] : Array Value).size = 1 from rfl, hrow, hm]
      simp only [Nat.mul_one] at hfill
      rw [hfill]
      simp [newRow]
  · refine h _ ?_ ((Below.refl _ _).alloc (Nat.le_refl _) _) _ (k.put _ hd)
    refine ⟨by rw [bv_length, Nat.mul_one], .inr ⟨w.heap.size, ys.length, (bv ys).toArray, rfl, Nat.le_refl _, heap_alloc_new w _, Nat.le_refl _, by simp only [maxLen]; omega, by simp [bv_length], ?_⟩⟩
    rw [Nat.mul_one]
    exact List.take_of_length_le (by simp [bv_length])
end
end Go.Proofs.Ytaoecdeljfdmeaa
