/- A part of the proof of FnMakeLeaderAndISRResponseUptoSaid: what its texts prove stands at the head of each. Conditions: those that each theorem names. -/
import Derived.Test.YtmihblfjhoblmaaPartA
import Derived.Laws.CopyRow
import Derived.Laws.OwnMore
import Derived.Test.YtmihblfjhoblmaaPartC
import Derived.Test.YtmihblfjhoblmaaPartB
import Derived.Deep.QuietTactic
import Derived.Sort.LotA
import Derived.Maps.RangeRun
set_option linter.all false
/- More operations: a new slice of octets, a copy of octets, the lowest bit. Over any program. -/
namespace Go.Proofs.Ytmihblfjhoblmaa
open Go Go.RowKit

theorem and1 (n : Int) : bits .and .i64 n 1 = n % 2 := by
  have key : bits .and .i64 n 1 = IntKind.i64.wrap ((BitVec.ofInt 64 n &&& BitVec.ofInt 64 1).toNat : Nat) := rfl
  rw [key, IntKind.wrap_i64]
  have h1 : (BitVec.ofInt 64 n &&& BitVec.ofInt 64 1).toNat = (BitVec.ofInt 64 n).toNat % 2 := by
    rw [BitVec.toNat_and]
    show (BitVec.ofInt 64 n).toNat &&& 1 = _
    rw [Nat.and_one_is_mod]
  rw [h1, BitVec.toNat_ofInt]
  omega
theorem wrap_bit (n : Int) : IntKind.u8.wrap (n % 2) = ((lowByte (n % 2)).toNat : Int) := wrap_u8 _

section
variable {P : Program} {ops : Array Oper} {Q : Exit → Act → World → Prop} {N : Nat} {rest : List Oper} {L : Sl} {w : World} {d : Nat} {ty : TypeId} {pos : String} {aft : Array Edge}
/-- A new slice of n noughts. -/
theorem wl_makeB {t u8 B n : Nat} {kl kc : IntKind} (hT : byteSl P t u8 = true) (hz : (P.info? u8).bind (·.zero) = some (.int .u8 0)) (hn : Nat.ble n 1000000 = true) (hd : Nat.blt d N = true) (hB : B ≤ w.heap.size)
    (h : ∀ w', Own w' B u8 (.slice (some ⟨w.heap.size, 0, none⟩) n n) (List.replicate n 0) → w.grownBy w' none → WL rest P ops Q N ((d, .slice (some ⟨w.heap.size, 0, none⟩) n n) :: L) w') :
    WL (⟨some d, .makeSlice t (.const (.int kl (n : Int))) (.const (.int kc (n : Int))), ty, pos, aft, none⟩ :: rest) P ops Q N L w := by
  intro a k
  obtain ⟨hu, i, z, hi, hs1, hb1, hz', hzc⟩ := byteSl_out hT
  have hn' := Nat.le_of_ble_eq_true hn
  obtain ⟨w', hr, ho, hg⟩ := run_makeSlice_full (P := P) (w := w) B t u8 i z 1 hu hi hz' hs1 kl kc n (by omega) (by rw [hb1]; omega) (by simp only [maxLen]; omega) hB
  have hzz : z = .int .u8 0 := by rw [hi] at hz; simp only [Option.bind_some, hz', Option.some.injEq] at hz; exact hz
  subst hzz
  have hc : (madeCells (Value.cells (.int .u8 0)) (n * 1)).toList = bv (List.replicate n 0) := by
    simp only [madeCells, Nat.mul_one, bv, List.map_replicate, Array.toList_map]
    apply List.ext_getElem
    · simp
    · intro j h1 h2; simp [Value.cells, Nat.mod_one]
  rw [hc] at ho
  refine st_of (o := ⟨some d, .makeSlice t (.const (.int kl (n : Int))) (.const (.int kc (n : Int))), ty, pos, aft, none⟩) (w' := w') rfl ?_ (h w' ?_ hg _ (k.put _ hd))
  · simp only [execOp, eval_const, Sem.run_bind, hr, Result.andThen_ok, Sem.run_pure]
  · unfold Own; rw [List.length_replicate]; exact ho
/-- Octets copied to the head of a slice that the call owns. -/
theorem wl_copyB {t u u8 B n g cap : Nat} {x y : Operand} {sv : Value} {xs ys : List UInt8} (hT : byteSl P t u8 = true) (hx : ev L x = some (.slice (some ⟨g, 0, none⟩) n cap)) (hy : ev L y = some sv) (hd : Nat.blt d N = true)
    (hown : Own w B u8 (.slice (some ⟨g, 0, none⟩) n cap) xs) (hlen : xs.length = n) (hsv : BytesAt w sv ys)
    (h : ∀ w', Own w' B u8 (.slice (some ⟨g, 0, none⟩) n cap) (ys.take n ++ xs.drop (min ys.length n)) → w.grownBy w' (some g) → WL rest P ops Q N ((d, .int .i64 ((min ys.length n : Nat) : Int)) :: L) w') :
    WL (⟨some d, .call ⟨.builtin .copy, #[x, y], #[t, u]⟩, ty, pos, aft, none⟩ :: rest) P ops Q N L w := by
  intro a k
  obtain ⟨hu, i, z, hi, hs1, hb1, hz', hzc⟩ := byteSl_out hT
  have hsz : (P.info? u8).map (·.size) = some 1 := by rw [hi]; simp [hs1]
  subst hlen
  rcases hsv with ⟨a0, c, rfl, rfl⟩ | ⟨b, off, c, rfl, hc⟩
  · have hrun := run_copy_none (P := P) w t u ty u8 (some ⟨g, 0, none⟩) a0 xs.length cap 0 c hu hsz (by simp)
    refine st_of (o := ⟨some d, .call ⟨.builtin .copy, #[x, y], #[t, u]⟩, ty, pos, aft, none⟩) (v := .int .i64 ((min ([] : List UInt8).length xs.length : Nat) : Int)) (w' := w) rfl ?_ (h w (by simpa using hown) ⟨rfl, rfl, rfl, Nat.le_refl _, fun _ _ _ => rfl⟩ _ (k.put _ hd))
    simp only [execOp, resolve, List.map_toArray, List.map_cons, List.map_nil, k.eval hx, k.eval hy, Sem.run_bind, Sem.run_pure, Result.andThen_ok, invoke, builtin, hrun]
    simp [goInt]
  · obtain ⟨hxl, ⟨he, h0⟩ | ⟨g', cap', cur, he, hBg, hheap, hle, hcap, hcs, htake⟩⟩ := hown
    · cases he
    · cases he
      have hcl : (bv (ys.take xs.length)).length = Nat.min ys.length xs.length := by rw [bv_length, List.length_take, Nat.min_comm]
      have hm : Nat.min ys.length xs.length ≤ xs.length := Nat.min_le_right _ _
      have hrun := run_copy_row (P := P) w t u ty u8 g 0 xs.length cap ⟨b, off, none⟩ ys.length c cur u8 (bv (ys.take xs.length)) hu hsz hheap hcl
        (fun j v hv => by
          rw [add_plain _ _ rfl]
          refine hc.cell (i := j) ?_
          simp only [bv, List.map_take] at hv
          rw [List.getElem?_take] at hv
          split at hv
          · exact hv
          · cases hv) (by rw [hcl]; rw [Nat.mul_one] at hcs; omega) (bv_one _)
      refine st_of (o := ⟨some d, .call ⟨.builtin .copy, #[x, y], #[t, u]⟩, ty, pos, aft, none⟩) (v := .int .i64 ((min ys.length xs.length : Nat) : Int)) (w' := w.setRow g (cur.toList.take 0 ++ bv (ys.take xs.length) ++ cur.toList.drop (0 + (bv (ys.take xs.length)).length)).toArray) rfl ?_ (h _ ?_ ?_ _ (k.put _ hd))
      · simp only [execOp, resolve, List.map_toArray, List.map_cons, List.map_nil, k.eval hx, k.eval hy, Sem.run_bind, Sem.run_pure, Result.andThen_ok, invoke, builtin, hrun]
        simp [goInt, hcl]
      · rw [Nat.mul_one] at hcs
        have hxx : (ys.take xs.length ++ xs.drop (min ys.length xs.length)).length = xs.length := by simp only [List.length_append, List.length_take, List.length_drop]; omega
        refine ⟨by rw [bv_length]; omega, .inr ⟨g, cap, _, by rw [hxx], hBg, setRow_heap w g cur _ u8 _ hheap, by rw [hxx]; exact hle, hcap, ?_, ?_⟩⟩
        · simp only [List.size_toArray, List.length_append, List.length_take, List.length_drop, Array.length_toList, hcl, hcs]; omega
        · have hl : cur.toList.length = cap := by simp [hcs]
          rw [hxx, bv_append]
          simp only [Nat.mul_one] at htake
          simp only [List.take_zero, List.nil_append, Nat.zero_add, hcl, Nat.mul_one]
          rw [List.take_append, List.take_of_length_le (by rw [hcl]; exact hm)]
          congr 1
          rw [hcl]
          have : bv (xs.drop (min ys.length xs.length)) = (bv xs).drop (min ys.length xs.length) := by simp [bv]
          rw [this, ← htake, List.drop_take]
      · exact ⟨rfl, rfl, rfl, by simp, fun k' _ hk => setRow_other w g k' _ (fun e' => hk (by rw [e']))⟩
end
end Go.Proofs.Ytmihblfjhoblmaa

/- Arrays: the slice of a whole one, octets copied into one. Over any program. -/
namespace Go.Proofs.Ytmihblfjhoblmaa
open Go Go.RowKit

def arrOf (P : Program) (t n : Nat) : Bool := match P.underlying t with
  | some (.array m e) => Nat.beq m n && (P.info? e).isSome
  | _ => false
section
variable {P : Program} {ops : Array Oper} {Q : Exit → Act → World → Prop} {N : Nat} {rest : List Oper} {L : Sl} {w : World} {ty : TypeId} {pos : String} {aft : Array Edge}
theorem rn_arrSl {a : Act} {d : Option Nat} {g : Option (Nat × Bool)} {x : Operand} {t n b : Nat} (k : Kn N a L) (hx : ev L x = some (.pointer (some ⟨b, 0, none⟩))) (ht : arrOf P t n = true) :
    (execOp a.eval ⟨d, .slice t x none none none, ty, pos, aft, g⟩).run P w = .ok (.value (.slice (some ⟨b, 0, none⟩) n n)) w := by
  unfold arrOf at ht
  split at ht
  · rename_i m e he
    simp only [Bool.and_eq_true] at ht
    obtain ⟨h1, h2⟩ := ht
    have := Nat.eq_of_beq_eq_true h1; subst this
    cases hie : P.info? e with
    | none => simp [hie] at h2
    | some inf =>
      simp only [execOp, k.eval hx, Option.map_none]
      simp [Instr.sliceAt, Instr.sureAddr, run_underlying he, Instr.sliceBounds, sizeOf, typeInfo, hie, Addr.add]
  · cases ht
theorem wl_arrSl {d : Nat} {x : Operand} {t n b : Nat} (hx : ev L x = some (.pointer (some ⟨b, 0, none⟩))) (ht : arrOf P t n = true) (hd : Nat.blt d N = true) (h : WL rest P ops Q N ((d, .slice (some ⟨b, 0, none⟩) n n) :: L) w) :
    WL (⟨some d, .slice t x none none none, ty, pos, aft, none⟩ :: rest) P ops Q N L w := by
  intro a k
  exact st_of (o := ⟨some d, .slice t x none none none, ty, pos, aft, none⟩) (v := .slice (some ⟨b, 0, none⟩) n n) rfl (rn_arrSl k hx ht) (h _ (k.put _ hd))
theorem does_copyBox {a : Act} {d : Option Nat} {gd : Option (Nat × Bool)} {x y : Operand} {t u u8 n g c e : Nat} {sv : Value} {xs ys : List UInt8} {R : Value → World → Prop} (k : Kn N a L) (hT : byteSl P t u8 = true) (hx : ev L x = some (.slice (some ⟨g, 0, none⟩) n c)) (hy : ev L y = some sv)
    (hB : Box w g (bv xs) e) (hlen : xs.length = n) (hsv : BytesAt w sv ys)
    (h : ∀ w', Box w' g (bv (ys.take n ++ xs.drop (min ys.length n))) e → w.grownBy w' (some g) → R (.int .i64 ((min ys.length n : Nat) : Int)) w') : Does P ⟨d, .call ⟨.builtin .copy, #[x, y], #[t, u]⟩, ty, pos, aft, gd⟩ a w R := by
  obtain ⟨hu, i, z, hi, hs1, hb1, hz', hzc⟩ := byteSl_out hT
  have hsz : (P.info? u8).map (·.size) = some 1 := by rw [hi]; simp [hs1]
  subst hlen
  rcases hsv with ⟨a0, c0, rfl, rfl⟩ | ⟨b, off, c0, rfl, hc⟩
  · have hrun := run_copy_none (P := P) w t u ty u8 (some ⟨g, 0, none⟩) a0 xs.length c 0 c0 hu hsz (by simp)
    refine does_of (v := .int .i64 ((min ([] : List UInt8).length xs.length : Nat) : Int)) (w' := w) ?_ (h w (by simpa using hB) ⟨rfl, rfl, rfl, Nat.le_refl _, fun _ _ _ => rfl⟩)
    simp only [execOp, resolve, List.map_toArray, List.map_cons, List.map_nil, k.eval hx, k.eval hy, Sem.run_bind, Sem.run_pure, Result.andThen_ok, invoke, builtin, hrun]
    simp [goInt]
  · have hcl : (bv (ys.take xs.length)).length = Nat.min ys.length xs.length := by rw [bv_length, List.length_take, Nat.min_comm]
    have hm : Nat.min ys.length xs.length ≤ xs.length := Nat.min_le_right _ _
    have hrun := run_copy_row (P := P) w t u ty u8 g 0 xs.length c ⟨b, off, none⟩ ys.length c0 (bv xs).toArray e (bv (ys.take xs.length)) hu hsz hB hcl
      (fun j v hv => by
        rw [add_plain _ _ rfl]
        refine hc.cell (i := j) ?_
        simp only [bv, List.map_take] at hv
        rw [List.getElem?_take] at hv
        split at hv
        · exact hv
        · cases hv) (by rw [hcl]; simp only [List.size_toArray, bv_length]; omega) (bv_one _)
    refine does_of (v := .int .i64 ((min ys.length xs.length : Nat) : Int)) (w' := w.setRow g ((bv xs).toArray.toList.take 0 ++ bv (ys.take xs.length) ++ (bv xs).toArray.toList.drop (0 + (bv (ys.take xs.length)).length)).toArray) ?_ (h _ ?_ ?_)
    · simp only [execOp, resolve, List.map_toArray, List.map_cons, List.map_nil, k.eval hx, k.eval hy, Sem.run_bind, Sem.run_pure, Result.andThen_ok, invoke, builtin, hrun]
      simp [goInt, hcl]
    · have hbx := setRow_heap w g _ ((bv xs).toArray.toList.take 0 ++ bv (ys.take xs.length) ++ (bv xs).toArray.toList.drop (0 + (bv (ys.take xs.length)).length)).toArray e _ hB
      unfold Box
      rw [hbx]
      congr 2
      rw [hcl, bv_append]
      have : bv (xs.drop (min ys.length xs.length)) = (bv xs).drop (min ys.length xs.length) := by simp [bv]
      rw [this]
      simp only [List.take_zero, List.nil_append, Nat.zero_add]
    · exact ⟨rfl, rfl, rfl, by simp, fun k' _ hk => setRow_other w g k' _ (fun e' => hk (by rw [e']))⟩
end
end Go.Proofs.Ytmihblfjhoblmaa

/- The package's functions that append, more: identifiers of sixteen octets. -/
namespace Go.Proofs.Ytmihblfjhoblmaa
open Go Go.RowKit

section
set_option maxRecDepth 100000
theorem appendUuid (ys : List UInt8) (hs : ys.length = 16) : App 111 [.agg (bv ys).toArray] ys := by
  intro d w B xs hpre hown hB hlim
  refine enter Try.func111 rfl Try.ntmps111 rfl ?_
  refine wc_seq (wc_region (wl_box1 (cs := bv ys) rfl rfl rfl (fun w1 hb1 hg1 hz1 => ?_)))
  repeat first|(with_reducible first|apply wc_seq|apply wc_region|apply wl_nil|apply qk_thn|apply wc_block|apply wc_skip|apply wc_ret|apply wc_exit|apply qk_thn_ret|apply qk_in_ret|apply qk_in|apply qk_thn_exit|apply qk_in_exit|apply qk_round_ret|apply qk_round_exit)|((with_reducible apply ws);exact rfl;exact rfl)|((with_reducible apply wl_yes);exact rfl;exact rfl;exact rfl)|((with_reducible apply wl_no);exact rfl;exact rfl;exact rfl;exact rfl)|((with_reducible apply wl_noU);exact rfl;exact rfl;exact rfl)
  refine wl_arrSl (n := 16) rfl (by kernel_rfl) rfl ?_
  refine wl_appSl (xs := xs) (ys := ys) (B := B) tb_bytes tb_bytes rfl rfl rfl (.inr ⟨w.heap.size, 0, 16, by rw [hs], hb1.cells⟩) (hown.kept hg1 (Decidable.em _)) (by omega) hlim (fun d' w' ho hg => ?_)
  repeat first|(with_reducible first|apply wc_seq|apply wc_region|apply wl_nil|apply qk_thn|apply wc_block|apply wc_skip|apply wc_ret|apply wc_exit|apply qk_thn_ret|apply qk_in_ret|apply qk_in|apply qk_thn_exit|apply qk_in_exit|apply qk_round_ret|apply qk_round_exit)|((with_reducible apply ws);exact rfl;exact rfl)|((with_reducible apply wl_yes);exact rfl;exact rfl;exact rfl)|((with_reducible apply wl_no);exact rfl;exact rfl;exact rfl;exact rfl)|((with_reducible apply wl_noU);exact rfl;exact rfl;exact rfl)
  have hg0 : Grew w w1 d d := ⟨⟨hg1.os, hg1.tape, hg1.output, hg1.size, fun k hk _ => hg1.block k hk (by simp)⟩, .inl rfl⟩
  exact qk_ret1 rfl rfl ⟨_, rfl, ho, hg0.trans hg⟩
end
end Go.Proofs.Ytmihblfjhoblmaa

/- The package's appending functions, as the reading of code knows them. -/
namespace Go.Proofs.Ytmihblfjhoblmaa
open Go Go.RowKit

def FnOk (f : Nat) (p : Pf) : Prop := ∀ (args : List Ar) (vs : List Value) (ys : List UInt8) (d : Value) (w : World) (B : Nat) (xs : List UInt8),
  semP p args = some ys → ArsOk B w args vs → Own w B 5 d xs → B ≤ w.heap.size → xs.length + ys.length ≤ lim →
  Calls Try.prog f (d :: vs).toArray w fun e w' => ∃ d', e = .returned d' ∧ Own w' B 5 d' (xs ++ ys) ∧ Grew w w' d d'
theorem arVal {B : Nat} {w : World} {a : Ar} {x v : Value} (h : a.val = some x) (k : ArOk B w a v) : v = x := by
  cases a with
  | v y => simp only [Ar.val, Option.some.injEq] at h; subst h; exact k
  | d y =>
    cases y with
    | lit z =>
      simp only [Ar.val, Option.some.injEq] at h; subst h
      simp only [ArOk, Rep] at k
      simpa using k
    | _ => cases h
theorem ars1 {B : Nat} {w : World} {a : Ar} {vs : List Value} (h : ArsOk B w [a] vs) : ∃ v, vs = [v] ∧ ArOk B w a v := by
  obtain ⟨v, r, rfl, h1, h2⟩ := h
  simp only [ArsOk] at h2
  subst h2
  exact ⟨v, rfl, h1⟩
theorem srcOf {B : Nat} {w : World} {d : D} {n : Bool} {ds : List D} {cs : List UInt8} {v : Value} (h : sliceOf d = some (n, ds)) (hb : bytesOf ds = some cs) (k : ArOk B w (.d d) v) : Src w B v cs := by
  have hds := bytesOf_eq hb
  subst hds
  have key : ∀ (b off cap : Nat) (cs' : List Value), Lo B b → CellsAt w b off cs' → Reps (Lo B) w (cs.map byteD) cs' → Src w B (.slice (some ⟨b, off, none⟩) cs.length cap) cs := by
    intro b off cap cs' hb hc hr
    rw [(reps_bytes cs cs').1 hr] at hc
    refine ⟨.inr ⟨b, off, cap, rfl, hc⟩, .inr (fun g hg => ?_)⟩
    simp only [Value.ownBlock, Option.some.injEq] at hg
    subst hg; exact hb
  cases d with
  | sl m l =>
    simp only [sliceOf, Option.some.injEq, Prod.mk.injEq] at h
    obtain ⟨rfl, rfl⟩ := h
    simp only [ArOk, Rep, List.length_map] at k
    obtain ⟨a, c, e, _, h1, h2⟩ := k
    simp only [List.cons.injEq, and_true] at e
    subst e
    cases m with
    | true =>
      obtain ⟨rfl, h0, _⟩ := h1 rfl
      have : cs = [] := by simpa using h0
      subst this
      exact ⟨.inl ⟨_, _, rfl, rfl⟩, .inl rfl⟩
    | false => obtain ⟨b, off, cs', rfl, hb, hc, hr⟩ := h2 rfl; exact key b off c cs' hb hc hr
  | sq l =>
    simp only [sliceOf, Option.some.injEq, Prod.mk.injEq] at h
    obtain ⟨rfl, rfl⟩ := h
    simp only [ArOk, Rep, List.length_map] at k
    obtain ⟨a, c, e, _, h2⟩ := k
    simp only [List.cons.injEq, and_true] at e
    subst e
    rcases h2 with h0 | ⟨b, off, cs', rfl, hb, hc, hr⟩
    · have : cs = [] := by simpa using h0
      subst this
      exact ⟨.inl ⟨_, _, rfl, rfl⟩, .inl rfl⟩
    · exact key b off c cs' hb hc hr
  | _ => cases h
theorem k_i16 : FnOk 108 .i16 := by
  intro args vs ys d w B xs hs ha ho hB hl
  cases args with
  | nil => simp [semP] at hs
  | cons a r =>
    cases r with
    | cons _ _ => simp [semP] at hs
    | nil =>
      obtain ⟨v, rfl, hv⟩ := ars1 ha
      simp only [semP] at hs
      split at hs
      · rename_i n hn; cases hs; rw [arVal hn hv] at *; exact appendInt16 n d w B xs trivial ho hB hl
      · cases hs
theorem k_i32 : FnOk 90 .i32 := by
  intro args vs ys d w B xs hs ha ho hB hl
  cases args with
  | nil => simp [semP] at hs
  | cons a r =>
    cases r with
    | cons _ _ => simp [semP] at hs
    | nil =>
      obtain ⟨v, rfl, hv⟩ := ars1 ha
      simp only [semP] at hs
      split at hs
      · rename_i n hn; cases hs; rw [arVal hn hv] at *; exact appendInt32 n d w B xs trivial ho hB hl
      · cases hs
theorem k_u16 : FnOk 115 .u16 := by
  intro args vs ys d w B xs hs ha ho hB hl
  cases args with
  | nil => simp [semP] at hs
  | cons a r =>
    cases r with
    | cons _ _ => simp [semP] at hs
    | nil =>
      obtain ⟨v, rfl, hv⟩ := ars1 ha
      simp only [semP] at hs
      split at hs
      · rename_i n hn; cases hs; rw [arVal hn hv] at *; exact appendUint16 n d w B xs trivial ho hB hl
      · cases hs
theorem k_str : FnOk 87 .str := by
  intro args vs ys d w B xs hs ha ho hB hl
  cases args with
  | nil => simp [semP] at hs
  | cons a r =>
    cases r with
    | cons _ _ => simp [semP] at hs
    | nil =>
      obtain ⟨v, rfl, hv⟩ := ars1 ha
      simp only [semP] at hs
      split at hs
      · rename_i s hn; split at hs
        · rename_i hsz; cases hs; rw [arVal hn hv] at *; exact appendString s (by omega) d w B xs trivial ho hB hl
        · cases hs
      · cases hs
theorem k_cstr : FnOk 86 .cstr := by
  intro args vs ys d w B xs hs ha ho hB hl
  cases args with
  | nil => simp [semP] at hs
  | cons a r =>
    cases r with
    | cons _ _ => simp [semP] at hs
    | nil =>
      obtain ⟨v, rfl, hv⟩ := ars1 ha
      simp only [semP] at hs
      split at hs
      · rename_i s hn; split at hs
        · rename_i hsz; cases hs; rw [arVal hn hv] at *; exact appendCompactString s (by omega) d w B xs trivial ho hB hl
        · cases hs
      · cases hs
theorem k_arr : FnOk 89 .arr := by
  intro args vs ys d w B xs hs ha ho hB hl
  unfold semP at hs
  split at hs
  all_goals try (rename_i hp; cases hp; done)
  all_goals try (cases hs; done)
  · obtain ⟨v, rfl, hv⟩ := ars1 ha
    split at hs
    · rename_i n hn
      cases hs
      simp only [ArOk] at hv
      subst hv
      obtain ⟨m, rfl⟩ := Int.eq_ofNat_of_zero_le hn.1
      exact appendArrayLen m (by omega) d w B xs trivial ho hB hl
    · cases hs
theorem k_carr : FnOk 88 .carr := by
  intro args vs ys d w B xs hs ha ho hB hl
  unfold semP at hs
  split at hs
  all_goals try (rename_i hp; cases hp; done)
  all_goals try (cases hs; done)
  · obtain ⟨v, rfl, hv⟩ := ars1 ha
    split at hs
    · rename_i n hn
      cases hs
      simp only [ArOk] at hv
      subst hv
      obtain ⟨m, rfl⟩ := Int.eq_ofNat_of_zero_le hn.1
      exact appendCompactArrayLen m (by omega) d w B xs trivial ho hB hl
    · cases hs
theorem k_uvar : FnOk 91 .uvar := by
  intro args vs ys d w B xs hs ha ho hB hl
  unfold semP at hs
  split at hs
  all_goals try (rename_i hp; cases hp; done)
  all_goals try (cases hs; done)
  · obtain ⟨v, rfl, hv⟩ := ars1 ha
    split at hs
    · rename_i n hn
      cases hs
      simp only [ArOk] at hv
      subst hv
      obtain ⟨m, rfl⟩ := Int.eq_ofNat_of_zero_le hn.1
      exact appendUvarint m (by omega) d w B xs trivial ho hB hl
    · cases hs
/-- The functions of this program that append. -/
theorem k_uuid : FnOk 111 .uuid := by
  intro args vs ys d w B xs hs ha ho hB hl
  unfold semP at hs
  split at hs
  all_goals try (rename_i hp; cases hp; done)
  all_goals try (cases hs; done)
  · obtain ⟨v, rfl, hv⟩ := ars1 ha
    split at hs
    · rename_i cs hcs
      split at hs
      · rename_i hlen
        cases hs
        simp only [ArOk] at hv
        obtain ⟨cells, rfl, hr⟩ := hv
        rw [bytesOf_eq hcs, reps_bytes] at hr
        subst hr
        exact appendUuid _ hlen d w B xs trivial ho hB hl
      · cases hs
    · cases hs
def fns : List (Nat × Pf) :=
  (108, .i16) ::
  (90, .i32) ::
  (115, .u16) ::
  (87, .str) ::
  (86, .cstr) ::
  (89, .arr) ::
  (88, .carr) ::
  (111, .uuid) ::
  (91, .uvar) ::
  []
theorem fns_all : ∀ kv ∈ fns, FnOk kv.1 kv.2 := by
  unfold fns
  refine List.forall_mem_cons.2 ⟨k_i16, ?_⟩
  refine List.forall_mem_cons.2 ⟨k_i32, ?_⟩
  refine List.forall_mem_cons.2 ⟨k_u16, ?_⟩
  refine List.forall_mem_cons.2 ⟨k_str, ?_⟩
  refine List.forall_mem_cons.2 ⟨k_cstr, ?_⟩
  refine List.forall_mem_cons.2 ⟨k_arr, ?_⟩
  refine List.forall_mem_cons.2 ⟨k_carr, ?_⟩
  refine List.forall_mem_cons.2 ⟨k_uuid, ?_⟩
  refine List.forall_mem_cons.2 ⟨k_uvar, ?_⟩
  intro kv h
  cases h
theorem pfOf_mem : ∀ {l : List (Nat × Pf)} {f : Nat} {p : Pf}, pfOf l f = some p → (f, p) ∈ l
  | [], _, _, h => by cases h
  | kv :: r, f, p, h => by
    simp only [pfOf] at h
    cases hb : Nat.beq kv.1 f with
    | true =>
      rw [hb] at h
      simp only [cond_true, Option.some.injEq] at h
      have := beq_out hb
      subst h; subst this; simp
    | false => rw [hb] at h; exact List.mem_cons_of_mem _ (pfOf_mem h)
/-- What the reading of this program's code knows, at a version. -/
def kt (tlen teach : Nat) (ver : Int) : Kt := ⟨fns, tlen, teach, .int .i16 ver⟩
theorem fnsOk (tlen teach : Nat) (ver : Int) : FnsOk Try.prog 5 (kt tlen teach ver) := by
  intro f p h _
  exact fns_all _ (pfOf_mem h)
end Go.Proofs.Ytmihblfjhoblmaa

/- Tags.Len at the seat. -/
namespace Go.Proofs.Ytmihblfjhoblmaa.Rdk
open Go Go.RowKit

theorem run_lenMap {P : Program} {t ty kt et : TypeId} (w : World) (m : Option Nat) (n : Nat) (h : P.underlying t = some (.map kt et)) (hm : (m = none ∧ n = 0) ∨ ∃ r es clock, m = some r ∧ w.heap[r]? = some (.map es clock) ∧ es.size = n) :
    (Builtin.len_ #[t] ty #[.map m]).run P w = .ok (.int .i64 (n : Int)) w := by
  rcases hm with ⟨rfl, rfl⟩ | ⟨r, es, clock, rfl, hb, rfl⟩
  · simp [Builtin.len_, run_underlying h, goInt]
  · simp [Builtin.len_, run_underlying h, MapKept.run_getObj_map hb, goInt]
theorem mp_len {ok : Nat → Prop} {w : World} {kvs : List (Nat × D)} {v : Value} (h : Rep ok w (.mp kvs) [v]) : ∃ m, v = .map m ∧ ((m = none ∧ kvs.length = 0) ∨ ∃ r es clock, m = some r ∧ w.heap[r]? = some (.map es clock) ∧ es.size = kvs.length) := by
  simp only [Rep] at h
  rcases h with ⟨e, rfl⟩ | ⟨r, es, clock, e, _, hb, hm, _⟩
  · simp only [List.cons.injEq, and_true] at e
    exact ⟨none, e, .inl ⟨rfl, rfl⟩⟩
  · simp only [List.cons.injEq, and_true] at e
    exact ⟨some r, e, .inr ⟨r, es, clock, rfl, hb, by rw [hm.1, List.length_map]⟩⟩
section
variable {P : Program} {ops : Array Oper} {Q : Exit → Act → World → Prop} {N : Nat} {rest : List Oper} {L : Sl} {w : World} {d : Nat} {ty : TypeId} {pos : String} {aft : Array Edge}
theorem wl_lenMap {x : Operand} {t kt et : TypeId} {m : Option Nat} {n : Nat} (hx : ev L x = some (.map m)) (hu : P.underlying t = some (.map kt et)) (hm : (m = none ∧ n = 0) ∨ ∃ r es clock, m = some r ∧ w.heap[r]? = some (.map es clock) ∧ es.size = n) (hd : Nat.blt d N = true)
    (h : WL rest P ops Q N ((d, .int .i64 (n : Int)) :: L) w) : WL (⟨some d, .call ⟨.builtin .len, #[x], #[t]⟩, ty, pos, aft, none⟩ :: rest) P ops Q N L w := by
  intro a k
  refine st_of (o := ⟨some d, .call ⟨.builtin .len, #[x], #[t]⟩, ty, pos, aft, none⟩) rfl ?_ (h _ (k.put _ hd))
  simp [execOp, resolve, k.eval hx, invoke, builtin, run_lenMap w m n hu hm]
end
theorem tlenOk (teach : Nat) (ver : Int) : TlenOk Try.prog (kt 92 teach ver) := by
  intro B w b off kvs v _ hc hr
  obtain ⟨m, rfl, hm⟩ := mp_len hr
  refine enter Try.func92 rfl Try.ntmps92 rfl ?_
  refine wc_seq (wc_region (wl_assign rfl rfl (wl_nil (qk_thn ?_))))
  refine wc_seq (wc_region ?_)
  refine wt rfl rfl ?_
  refine wt rfl rfl ?_
  refine wt rfl rfl ?_
  refine wl_load rfl to_map rfl hc ?_
  refine wl_lenMap rfl um hm rfl ?_
  refine wt rfl rfl ?_
  exact wl_nil (qk_thn (wc_ret (qk_ret1 rfl rfl ⟨rfl, rfl⟩)))
end Go.Proofs.Ytmihblfjhoblmaa.Rdk

/- The library's sort.Slice at the seat, on a row of 32-bit numbers that the call owns. -/
namespace Go.Proofs.Ytmihblfjhoblmaa.Rdk
open Go Go.RowKit Go.Sort Go.Lib Go.Shelf

set_option maxRecDepth 100000
noncomputable def siT : TypeInfo := (Try.prog.info? 181).get (by kernel_rfl)
noncomputable def siE : TypeInfo := (Try.prog.info? 62).get (by kernel_rfl)
theorem siK (n : Nat) (h2 : 2 ≤ n) : Lib.swapperK n siE 10 = 6 := by
  have a : siE.hasPointers = false := by kernel_rfl
  have b : siE.bytes = 4 := by kernel_rfl
  have c : (n == 0) = false := by simp; omega
  have d : (n == 1) = false := by simp; omega
  simp [Lib.swapperK, a, b, c, d]
set_option maxHeartbeats 2000000 in
theorem less_u32 (blk off c Bs size : Nat) (W : World) (G : Nat → Int) (hs : W.cell? ⟨Bs, 0, none⟩ = some (.slice (some ⟨blk, off, none⟩) size c))
    (hc : ∀ t, t < size → W.cell? ⟨blk, off + t, none⟩ = some (.int .u32 (G t))) (i j : Nat) (hi : i < size) (hj : j < size) :
    Calls Try.prog 135 #[.int .i64 i, .int .i64 j, .pointer (some ⟨Bs, 0, none⟩)] W fun e w' => e = .returned (.bool (decide (G i < G j))) ∧ ∃ q, w' = W.drewN q := by
  have ci := hc i hi
  have cj := hc j hj
  go_enter Try.func135, Try.ntmps135
  go_wp2
  go_quiet (fail)
  go_wp2
  go_ret
  exact ⟨rfl, nq, rfl⟩
abbrev encU : Int → Value := Value.int .u32
theorem holds_row {w : World} {B blk cap : Nat} {e : TypeId} {zs : List Int} (h : w.ownsRow B e 1 (.slice (some ⟨blk, 0, none⟩) zs.length cap) zs.length (zs.map encU)) : Holds encU w blk 0 zs.toArray := by
  obtain ⟨_, ⟨he, _⟩ | ⟨g, cap', cur, he, _, hheap, hle, hcap, hcs, htake⟩⟩ := h
  · cases he
  · cases he
    intro j hj
    have hj' : j < zs.length := by simpa using hj
    have hx : cur[j]? = some (encU zs[j]) := by
      have : (cur.toList.take (zs.length * 1))[j]? = some (encU zs[j]) := by rw [htake]; simp [hj']
      rw [List.getElem?_take] at this
      split at this
      · simpa using this
      · cases this
    refine ⟨?_, by simp [World.frozen?, hheap]⟩
    rw [show (zs.toArray)[j]! = zs[j] by simp [hj']]
    simp [World.cell?, hheap, hx]
theorem sorted_row {w w' : World} {blk n : Nat} {cur : Array Value} {e : TypeId} {d' : Array Int} {os : Array Obj} (hb : w.heap[blk]? = some (.cells cur e (0, 0))) (hsz : d'.size ≤ cur.size) (hw : w' = grow (putRow encU (Sort.ahead w n) blk 0 d') os) :
    CellsAt w' blk 0 (d'.toList.map encU) ∧ Chg (· = blk) w w' := by
  subst hw
  have hlt : blk < w.heap.size := (Array.getElem?_eq_some_iff.1 hb).1
  have hbl : (putRow encU (Sort.ahead w n) blk 0 d').heap[blk]? = some (.cells (putCells encU 0 d' cur) e (0, 0)) := by
    simp [putRow, mapBlock, Sort.ahead, Array.getElem?_modify, hb, onCells]
  constructor
  · refine ⟨putCells encU 0 d' cur, e, (0, 0), by rw [heap_grow_old _ _ (by simpa using hlt)]; exact hbl, by simp [putCells]; omega, fun i v hv => ?_⟩
    rw [List.getElem?_map] at hv
    have hi : i < d'.size := by
      cases hx : d'.toList[i]? with
      | none => rw [hx] at hv; cases hv
      | some x => simpa using (List.getElem?_eq_some_iff.1 hx).1
    simp only [Array.getElem?_toList, Array.getElem?_eq_getElem hi, Option.map_some, Option.some.injEq] at hv
    have hic : i < cur.size := by omega
    simp only [Nat.zero_add, putCells, Array.getElem?_mapIdx, Array.getElem?_eq_getElem hic, Option.map_some, Nat.zero_le, true_and, if_pos hi, Nat.sub_zero]
    rw [getElem!_pos d' i hi, hv]
  · refine ⟨rfl, rfl, rfl, by simp, fun k hk hne => ?_⟩
    rw [heap_grow_old _ _ (by simpa using hk)]
    have : blk ≠ k := fun e => hne e.symm
    simp [putRow, mapBlock, Sort.ahead, Array.getElem?_modify, this]
theorem tiny_sorted : ∀ (zs : List Int), zs.length ≤ 1 → zs.Pairwise (fun x y => x ≤ y)
  | [], _ => List.Pairwise.nil
  | [_], _ => List.pairwise_singleton _ _
theorem fn_sortTiny (p : Option Addr) (n c : Nat) (h1 : n ≤ 1) (Bs : Nat) (w : World) :
    Calls Try.prog 134 #[.iface 181 (.slice p n c), .func (.func 135) #[] #[.pointer (some ⟨Bs, 0, none⟩)]] w fun e w' => e = .returned (.tuple #[]) ∧ ∃ os, w' = grow w os := by
  have hK : Lib.swapperK n siE 10 = n + 1 := by
    rcases Nat.eq_zero_or_pos n with h | h
    · subst h; simp [Lib.swapperK]
    · obtain rfl : n = 1 := by omega
      simp [Lib.swapperK]
  exact Any.sort_Slice_tiny Try.gl6 181 62 siT siE (by kernel_rfl) (by kernel_rfl) (by kernel_rfl) (by kernel_rfl) 10 (fun _ => by kernel_rfl) p n c h1 (142 + n) (by
    rw [hK]
    rcases Nat.eq_zero_or_pos n with h | h
    · subst h; kernel_rfl
    · obtain rfl : n = 1 := by omega
      kernel_rfl) (.func 135) #[] #[.pointer (some ⟨Bs, 0, none⟩)] w
set_option maxHeartbeats 2000000 in
theorem fn_sort (w : World) (B blk cap Bs : Nat) (e0 : TypeId) (zs : List Int) (hlen : zs.length < 4611686018427387904) (hbs : Box w Bs [.slice (some ⟨blk, 0, none⟩) zs.length cap] e0)
    (hrow : w.ownsRow B 62 1 (.slice (some ⟨blk, 0, none⟩) zs.length cap) zs.length (zs.map encU)) (hne : Bs ≠ blk) :
    Calls Try.prog 134 #[.iface 181 (.slice (some ⟨blk, 0, none⟩) zs.length cap), .func (.func 135) #[] #[.pointer (some ⟨Bs, 0, none⟩)]] w fun e w' =>
      e = .returned (.tuple #[]) ∧ ∃ zs' : List Int, zs'.Perm zs ∧ zs'.Pairwise (fun x y => x ≤ y) ∧ CellsAt w' blk 0 (zs'.map encU) ∧ Chg (· = blk) w w' := by
  have hH := holds_row hrow
  obtain ⟨hxl, ⟨he, _⟩ | ⟨g, cap', cur, he, hBg, hheap, hle, hcap, hcs, htake⟩⟩ := id hrow
  · cases he
  cases he
  have hblk : blk < w.heap.size := (Array.getElem?_eq_some_iff.1 hheap).1
  have hsz : zs.toArray.size = zs.length := by simp
  by_cases h2 : 2 ≤ zs.length
  · have hless : LessReads Try.prog 135 #[.pointer (some ⟨Bs, 0, none⟩)] encU ltInt blk 0 zs.toArray.size w := by
      intro m os dk hs i j hi hj
      rw [hsz] at hs hi hj
      refine less_u32 blk 0 cap Bs zs.length _ (fun t => dk[t]!) ?_ (fun t ht => ?_) i j hi hj
      · unfold sortWorld
        rw [cell?_grow _ _ _ (by simpa using hbs.lt), cell?_putRow_other _ _ blk 0 dk _ (Or.inl hne)]
        exact hbs.cell (i := 0) rfl
      · unfold sortWorld
        rw [cell?_grow _ _ _ (by simpa using hblk)]
        exact cell?_putRow encU (Sort.ahead w m) blk 0 zs.toArray dk (holds_ahead _ _ _ _ _ _ hH) (by rw [hs, hsz]) t (by omega)
    have hS := Any.sort_Slice_sorted Try.gl6 181 62 siT siE (by kernel_rfl) (by kernel_rfl) (by kernel_rfl) (by kernel_rfl) 10 (fun _ => by kernel_rfl) (by kernel_rfl) (fun _ => by kernel_rfl) encU (fun _ => rfl) ltInt swo_ltInt 135 _
      (enters_of Try.func135 (by kernel_rfl) rfl) blk 0 cap zs.toArray (by rw [hsz]; exact h2) (by rw [hsz]; exact hlen) 147 (by rw [hsz, siK _ h2]; kernel_rfl) true
      (fun args W => run_callFunc_extern Try.func147 (by kernel_rfl) (by kernel_rfl) (by kernel_rfl) (e := Extern.ReflectliteSwapper.swap true) (by kernel_rfl) args W) w hless hH hblk
    change Calls Try.prog 134 _ _ _ at hS
    rw [hsz] at hS
    refine hS.mono (fun e w' h => ?_)
    obtain ⟨h1, d', n, os, hp, hso, hw⟩ := h
    have hd : d'.size = zs.length := by rw [hp.1, hsz]
    refine ⟨h1, d'.toList, ?_, ?_, ?_⟩
    · have := hp.2.2
      rw [← hd] at this
      have e1 : d'.toList.take zs.length = d'.toList := List.take_of_length_le (by simp; omega)
      simpa [hd, e1] using this
    · rw [List.pairwise_iff_getElem]
      intro i j hi hj hij
      have hi' : i < d'.size := by simpa using hi
      have hj' : j < d'.size := by simpa using hj
      have := hso i j (Nat.zero_le _) hij (by omega)
      rw [getElem!_pos d' i hi', getElem!_pos d' j hj'] at this
      simp only [ltInt, decide_eq_false_iff_not] at this
      simp only [Array.getElem_toList]
      omega
    · exact sorted_row hheap (by rw [hcs, hd]; omega) hw
  · have hn : zs.length ≤ 1 := by omega
    have hS := fn_sortTiny (some ⟨blk, 0, none⟩) zs.length cap hn Bs w
    refine hS.mono (fun e w' h => ?_)
    obtain ⟨h1, os, hw⟩ := h
    refine ⟨h1, zs, List.Perm.refl _, ?_, ?_⟩
    · exact tiny_sorted zs hn
    · subst hw
      refine ⟨⟨cur, 62, (0, 0), by rw [heap_grow_old _ _ hblk]; exact hheap, by rw [List.length_map]; omega, fun i v hv => ?_⟩, ⟨rfl, rfl, rfl, by simp, fun k hk _ => heap_grow_old _ _ hk⟩⟩
      rw [← htake, List.getElem?_take] at hv
      split at hv
      · simpa using hv
      · cases hv
end Go.Proofs.Ytmihblfjhoblmaa.Rdk

/- Ranging over tags in a map, by rising numbers: the rules that this wants, and the plain facts. Over any program. -/
namespace Go.Proofs.Ytmihblfjhoblmaa
open Go Go.RowKit

section
variable {P : Program} {ops : Array Oper} {Q : Exit → Act → World → Prop} {N : Nat} {rest : List Oper} {L : Sl} {w : World} {d : Nat} {ty : TypeId} {pos : String} {aft : Array Edge}
/-- A call of a function value. -/
theorem wl_callV {x : Operand} {f : FuncId} {bs vs : List Value} {args : List Operand} {ats : Array TypeId} (hx : ev L x = some (.func (.func f) #[] bs.toArray)) (ha : evs L args = some vs) (hf : isFn P f = true) (hd : Nat.blt d N = true)
    (hc : Calls P f (vs ++ bs).toArray w fun e w' => ∃ v, e = .returned v ∧ WL rest P ops Q N ((d, v) :: L) w') :
    WL (⟨some d, .call ⟨.value x, args.toArray, ats⟩, ty, pos, aft, none⟩ :: rest) P ops Q N L w := by
  intro a k
  refine wpList_plain rfl (fun K hK => ?_)
  unfold Oper.wp
  have hargs : args.toArray.map a.eval = vs.toArray := by rw [List.map_toArray, k.evals ha]
  have hr : (execOp a.eval ⟨some d, .call ⟨.value x, args.toArray, ats⟩, ty, pos, aft, none⟩).run P w = .ok (.enter f (vs ++ bs).toArray) w := by
    unfold isFn at hf
    cases hfn : P.funcs[f]? with
    | none => simp [hfn] at hf
    | some fn =>
      simp [hfn] at hf
      have h2 : fn.body ≠ none := by intro e; simp [e] at hf
      have h3 := hf.1
      simp only [execOp, resolve, Deferred.ofValue, k.eval hx, hargs, Sem.run_bind, Sem.run_pure, Result.andThen_ok, invoke, callFunc, run_program, hfn]
      simp [h3, h2]
  rw [hr]
  refine hc.mono (fun e w' he => ?_)
  obtain ⟨v, rfl, hv⟩ := he
  exact hK _ _ (hv _ (k.put v hd))
theorem wl_makeFunc {f : FuncId} {caps : List Operand} {vs : List Value} (ha : evs L caps = some vs) (hd : Nat.blt d N = true) (h : WL rest P ops Q N ((d, .func (.func f) #[] vs.toArray) :: L) w) :
    WL (⟨some d, .makeFunc (.func f) #[] caps.toArray, ty, pos, aft, none⟩ :: rest) P ops Q N L w := by
  intro a k
  refine st_of (o := ⟨some d, .makeFunc (.func f) #[] caps.toArray, ty, pos, aft, none⟩) (v := .func (.func f) #[] vs.toArray) (w' := w) rfl ?_ (h _ (k.put _ hd))
  have hargs : caps.toArray.map a.eval = vs.toArray := by rw [List.map_toArray, k.evals ha]
  simp [execOp, Instr.makeFunc, hargs]
theorem wl_makeIface {x : Operand} {t e : TypeId} {v : Value} (hx : ev L x = some v) (hu : P.underlying t = some (.slice e)) (hd : Nat.blt d N = true) (h : WL rest P ops Q N ((d, .iface t v) :: L) w) :
    WL (⟨some d, .makeInterface t x, ty, pos, aft, none⟩ :: rest) P ops Q N L w := by
  intro a k
  refine st_of (o := ⟨some d, .makeInterface t x, ty, pos, aft, none⟩) (v := .iface t v) (w' := w) rfl ?_ (h _ (k.put _ hd))
  simp [execOp, Instr.makeInterface, run_underlying hu, k.eval hx]
theorem wl_extract {x : Operand} {i : Nat} {vs : Array Value} {v : Value} (hx : ev L x = some (.tuple vs)) (hv : vs[i]? = some v) (hd : Nat.blt d N = true) (h : WL rest P ops Q N ((d, v) :: L) w) :
    WL (⟨some d, .extract x i, ty, pos, aft, none⟩ :: rest) P ops Q N L w := by
  intro a k
  refine st_of (o := ⟨some d, .extract x i, ty, pos, aft, none⟩) (v := v) (w' := w) rfl ?_ (h _ (k.put _ hd))
  simp [execOp, Instr.extract, k.eval hx, hv]
theorem wl_range {x : Operand} {t kt et bm clock : Nat} {es : Array MapEntry} (hx : ev L x = some (.map (some bm))) (hu : P.underlying t = some (.map kt et)) (hb : w.heap[bm]? = some (.map es clock)) (hd : Nat.blt d N = true)
    (h : WL rest P ops Q N ((d, .pointer (some ⟨w.heap.size, 0, none⟩)) :: L) (w.alloc (.mapIter (some bm) clock #[] clock))) : WL (⟨some d, .range t x, ty, pos, aft, none⟩ :: rest) P ops Q N L w := by
  intro a k
  refine st_of (o := ⟨some d, .range t x, ty, pos, aft, none⟩) (v := .pointer (some ⟨w.heap.size, 0, none⟩)) (w' := w.alloc (.mapIter (some bm) clock #[] clock)) rfl ?_ (h _ (k.put _ hd))
  simp [execOp, k.eval hx, run_range_map w t kt et bm es clock hu hb]
theorem wl_next {x : Operand} {r bm since c0 clock : Nat} {seen : Array Nat} {es : Array MapEntry} (hx : ev L x = some (.pointer (some ⟨r, 0, none⟩))) (hr : w.heap[r]? = some (.mapIter (some bm) since seen c0)) (hb : w.heap[bm]? = some (.map es clock)) (hold : ∀ x ∈ es.toList, x.born < since) (hsc : since ≤ c0) (hd : Nat.blt d N = true)
    (h0 : (leftOf es seen).size = 0 → WL rest P ops Q N ((d, .tuple #[.bool false]) :: L) w)
    (h1 : ∀ e ∈ (leftOf es seen).toList, ∀ w', w'.heap[r]? = some (.mapIter (some bm) since (seen.push e.born) clock) → Chg (· = r) w w' → w'.heap.size = w.heap.size → WL rest P ops Q N ((d, .tuple #[.bool true, e.key, e.val]) :: L) w') :
    WL (⟨some d, .next x false, ty, pos, aft, none⟩ :: rest) P ops Q N L w := by
  intro a k
  have hlt : r < w.heap.size := (Array.getElem?_eq_some_iff.1 hr).1
  rcases run_next_at (P := P) w ty r bm since c0 seen es clock hr hb hold hsc with ⟨hz, hrun⟩ | ⟨e, he, w1, hw1, hrun⟩
  · refine st_of (o := ⟨some d, .next x false, ty, pos, aft, none⟩) (v := .tuple #[.bool false]) (w' := w) rfl ?_ (h0 hz _ (k.put _ hd))
    simp [execOp, k.eval hx, hrun]
  · refine st_of (o := ⟨some d, .next x false, ty, pos, aft, none⟩) (v := .tuple #[.bool true, e.key, e.val]) (w' := Go.ChangeMaps.setBlock w1 r (.mapIter (some bm) since (seen.push e.born) clock)) rfl ?_ (h1 e he _ ?_ ?_ ?_ _ (k.put _ hd))
    · simp [execOp, k.eval hx, hrun]
    · rcases hw1 with rfl | rfl <;> simp [Go.ChangeMaps.setBlock, hlt]
    · rcases hw1 with rfl | rfl <;> exact ⟨rfl, rfl, rfl, by simp [Go.ChangeMaps.setBlock], fun j _ hn => by
        have : r ≠ j := fun e => hn e.symm
        simp [Go.ChangeMaps.setBlock, this] <;> rfl⟩
    · rcases hw1 with rfl | rfl <;> simp [Go.ChangeMaps.setBlock]
theorem wl_entry {x : Operand} {r bm since clock : Nat} {seen : Array Nat} {es : Array MapEntry} {e : MapEntry} (hx : ev L x = some (.pointer (some ⟨r, 0, none⟩))) (hr : w.heap[r]? = some (.mapIter (some bm) since (seen.push e.born) clock)) (hb : w.heap[bm]? = some (.map es clock)) (he : e ∈ es.toList) (hn : (es.toList.map (·.born)).Nodup) (hd : Nat.blt d N = true)
    (h : WL rest P ops Q N ((d, .tuple #[e.key, e.val]) :: L) w) : WL (⟨some d, .entry x, ty, pos, aft, none⟩ :: rest) P ops Q N L w := by
  intro a k
  refine st_of (o := ⟨some d, .entry x, ty, pos, aft, none⟩) (v := .tuple #[e.key, e.val]) (w' := w) rfl ?_ (h _ (k.put _ hd))
  simp [execOp, k.eval hx, run_entry_at w r bm since seen es clock e hr hb he hn]
/-- A row with room for n elements, none in it yet. -/
theorem wl_makeRow {t e sz B n : Nat} {kl kc : IntKind} {x : Operand} (hT : rowTy P t e sz = true) (hx : ev L x = some (.int kc (n : Int))) (hn : n ≤ many) (hd : Nat.blt d N = true) (hB : B ≤ w.heap.size)
    (h : ∀ w', w'.ownsRow B e sz (.slice (some ⟨w.heap.size, 0, none⟩) 0 n) 0 [] → w.grownBy w' none → w'.heap.size = w.heap.size + 1 → WL rest P ops Q N ((d, .slice (some ⟨w.heap.size, 0, none⟩) 0 n) :: L) w') :
    WL (⟨some d, .makeSlice t (.const (.int kl 0)) x, ty, pos, aft, none⟩ :: rest) P ops Q N L w := by
  intro a k
  obtain ⟨hu, i, z, hi, hs1, hb1, hz, hzc⟩ := rowTy_out hT
  have hm : i.bytes * n ≤ 281474976710656 := by have := Nat.mul_le_mul hb1 hn; simp only [many] at this; omega
  have h63 : n ≤ maxLen := by simp only [many, maxLen] at *; omega
  have h63' : (n : Int) ≤ 9223372036854775807 := by simp only [maxLen] at h63; omega
  have hb' : (i.bytes : Int) * (n : Int) ≤ 281474976710656 := by
    have h : ((i.bytes * n : Nat) : Int) ≤ 281474976710656 := by omega
    rwa [Int.natCast_mul] at h
  have hr := run_make (P := P) w t e i z hu hi hz kl kc 0 n (Int.le_refl _) (by omega) hb' h63'
  simp only [Int.toNat_zero, Int.toNat_natCast] at hr
  refine st_of (o := ⟨some d, .makeSlice t (.const (.int kl 0)) x, ty, pos, aft, none⟩) (w' := w.alloc (.cells (madeCells z.cells (n * i.size)) e)) rfl ?_ (h _ (by rw [← hs1]; exact World.ownsRow_made w _ n hB h63 (size_madeCells _ _)) (World.grownBy_alloc w _ none) (by simp) _ (k.put _ hd))
  simp only [execOp, eval_const, k.eval hx, Sem.run_bind, hr, Result.andThen_ok, Sem.run_pure]
/-- What lies under a key. -/
theorem wl_lookup {x y : Operand} {t kt et bm clock key : Nat} {es : Array MapEntry} {ks : List Nat} (hx : ev L x = some (.map (some bm))) (hy : ev L y = some (.int .u32 (key : Int))) (hu : P.underlying t = some (.map kt et)) (hk : P.underlying kt = some (.int .u32)) (hb : w.heap[bm]? = some (.map es clock)) (hm : Mapped es clock ks) (hin : ∃ e ∈ es, e.key = .int .u32 (key : Int)) (hd : Nat.blt d N = true)
    (h : ∀ e ∈ es, e.key = .int .u32 (key : Int) → WL rest P ops Q N ((d, e.val) :: L) w) : WL (⟨some d, .lookup t x y false, ty, pos, aft, none⟩ :: rest) P ops Q N L w := by
  intro a k
  have hik : MapKept.IsKey (.int .u32) (.int .u32 (key : Int)) := rfl
  have hks : ∀ x ∈ es.toList, MapKept.IsKey (.int .u32) x.key := fun x hx => by
    obtain ⟨k, _, e⟩ := hm.2.2.1 x hx
    rw [e]; rfl
  rcases MapKept.findNow_spec hik es.toList 0 hks with ⟨_, g2⟩ | ⟨j, e, g1, g2, g3⟩
  · obtain ⟨e, he, hek⟩ := hin
    exact absurd hek (g2 e (Array.mem_toList_iff.2 he))
  · have hj : es[j]? = some e := by simpa using g2
    refine st_of (o := ⟨some d, .lookup t x y false, ty, pos, aft, none⟩) (v := e.val) (w' := w) rfl ?_ (h e (Array.mem_of_getElem? hj) g3 _ (k.put _ hd))
    simp [execOp, k.eval hx, k.eval hy, Instr.lookup, run_underlying hu, MapKept.run_getObj_map hb, MapKept.run_checkKey hk hik, MapKept.run_findKey hk g1, Result.andThen]
end

/-- Two rows with the same numbers, both rising, are one. -/
theorem sorted_one : ∀ (a b : List Int), a.Perm b → a.Pairwise (fun x y => x ≤ y) → b.Pairwise (fun x y => x ≤ y) → a = b
  | [], b, h, _, _ => (List.Perm.nil_eq h)
  | x :: a, [], h, _, _ => by have := h.length_eq; simp at this
  | x :: a, y :: b, h, ha, hb => by
    have ha' := List.pairwise_cons.1 ha
    have hb' := List.pairwise_cons.1 hb
    have hx : x ∈ y :: b := h.mem_iff.1 (by simp)
    have hy : y ∈ x :: a := h.mem_iff.2 (by simp)
    have e : x = y := by
      rcases List.mem_cons.1 hx with e | hx
      · exact e
      · rcases List.mem_cons.1 hy with e | hy
        · exact e.symm
        · have := hb'.1 x hx; have := ha'.1 y hy; omega
    subst e
    rw [sorted_one a b h.cons_inv ha'.2 hb'.2]
/-- A row in which nothing comes twice, within another no longer: the same. -/
theorem perm_sub {α : Type} [DecidableEq α] : ∀ (a b : List α), a.Nodup → (∀ x ∈ a, x ∈ b) → b.length ≤ a.length → a.Perm b
  | [], b, _, _, h => by
    have : b = [] := List.length_eq_zero_iff.1 (by simpa using h)
    subst this; exact List.Perm.refl _
  | x :: a, b, hn, hs, hl => by
    have hn' := List.nodup_cons.1 hn
    have hx : x ∈ b := hs x (by simp)
    have h1 := List.perm_cons_erase hx
    refine (List.Perm.cons x (perm_sub a (b.erase x) hn'.2 (fun y hy => ?_) ?_)).trans h1.symm
    · exact (List.mem_erase_of_ne (fun e => hn'.1 (by rw [← e]; exact hy))).2 (hs y (by simp [hy]))
    · rw [List.length_erase_of_mem hx]; simp at hl; omega
/-- One more entry has been handed out. -/
theorem leftOf_push {es : Array MapEntry} {seen : Array Nat} {e : MapEntry} (he : e ∈ (leftOf es seen).toList) (hn : (es.toList.map (·.born)).Nodup) : (leftOf es seen).toList.Perm (e :: (leftOf es (seen.push e.born)).toList) := by
  have h1 : (leftOf es (seen.push e.born)).toList = (leftOf es seen).toList.filter (fun x => x.born != e.born) := by
    simp only [leftOf, Array.toList_filter, List.filter_filter]
    apply List.filter_congr
    intro x _
    simp only [Array.contains_push]
    cases hb : (x.born == e.born) <;> cases seen.contains x.born <;> simp_all
  rw [h1]
  have hnd : ((leftOf es seen).toList.map (·.born)).Nodup := by
    simp only [leftOf, Array.toList_filter]
    exact (List.filter_sublist.map _).nodup hn
  generalize (leftOf es seen).toList = l at he hnd
  induction l with
  | nil => cases he
  | cons y l ih =>
    simp only [List.map_cons, List.nodup_cons] at hnd
    rcases List.mem_cons.1 he with rfl | he
    · have hall : l.filter (fun x => x.born != e.born) = l := by
        refine List.filter_eq_self.2 (fun x hx => ?_)
        have : x.born ≠ e.born := fun h => hnd.1 (by rw [← h]; exact List.mem_map.2 ⟨x, hx, rfl⟩)
        simpa using this
      rw [List.filter_cons, if_neg (by simp), hall]
    · have hne : y.born ≠ e.born := fun h => hnd.1 (by rw [h]; exact List.mem_map.2 ⟨e, he, rfl⟩)
      rw [List.filter_cons, if_pos (by simpa using hne)]
      exact (List.Perm.cons y (ih he hnd.2)).trans (List.Perm.swap _ _ _)
def intOf : Value → Int
  | .int _ n => n
  | _ => 0
/-- The keys that were handed out, sorted, are the tags' numbers. -/
theorem keys_sorted {es : Array MapEntry} {clock : Nat} {ks : List Nat} {zs zs' : List Int} (hm : Mapped es clock ks) (hk : ∀ k ∈ ks, ∃ e ∈ es, e.key = .int .u32 (k : Int)) (hz : (zs.map (Value.int .u32)).Perm (es.toList.map (·.key))) (hp : zs'.Perm zs) (hs : zs'.Pairwise (fun x y => x ≤ y)) : zs' = ks.map (fun k : Nat => (k : Int)) := by
  have h1 : (ks.map (fun k : Nat => (k : Int))).Perm (es.toList.map (fun e => intOf e.key)) := by
    refine perm_sub _ _ ?_ ?_ ?_
    · refine List.pairwise_map.2 (hm.2.2.2.imp (fun h e => by omega))
    · intro x hx
      obtain ⟨k, hk', rfl⟩ := List.mem_map.1 hx
      obtain ⟨e, he, hek⟩ := hk k hk'
      exact List.mem_map.2 ⟨e, Array.mem_toList_iff.2 he, by rw [hek]; rfl⟩
    · simp [hm.1]
  have h2 : zs.Perm (es.toList.map (fun e => intOf e.key)) := by
    have := hz.map intOf
    simpa [List.map_map, Function.comp_def, intOf] using this
  exact sorted_one _ _ ((hp.trans h2).trans h1.symm) hs (List.pairwise_map.2 (hm.2.2.2.imp (fun h => by omega)))
/-- The tags' octets, one by one. -/
theorem semT_at : ∀ (kvs : List (Nat × D)) (ys : List UInt8), semT kvs = some ys → ∀ i (h : i < kvs.length), ∃ pre cs post, semT (kvs.take i) = some pre ∧ ((sliceOf kvs[i].2).bind fun s => bytesOf s.2) = some cs ∧ kvs[i].1 < 4294967296 ∧ cs.length < 2147483648 ∧
    semT (kvs.take (i + 1)) = some (pre ++ (uvar kvs[i].1 ++ uvar cs.length ++ cs)) ∧ ys = pre ++ (uvar kvs[i].1 ++ uvar cs.length ++ cs) ++ post
  | [], _, _, i, h => by cases h
  | kv :: r, ys, hs, i, h => by
    simp only [semT] at hs
    split at hs
    · rename_i cs b hc hb
      split at hs
      · rename_i hlt
        cases hs
        cases i with
        | zero =>
          refine ⟨[], cs, b, by simp [semT], by simpa using hc, hlt.1, hlt.2, ?_, by simp⟩
          simp [semT, hc, hlt]
        | succ i =>
          obtain ⟨pre, cs', post, k1, k2, k3, k4, k5, k6⟩ := semT_at r b hb i (by simpa using h)
          refine ⟨uvar kv.1 ++ uvar cs.length ++ cs ++ pre, cs', post, ?_, by simpa using k2, by simpa using k3, k4, ?_, ?_⟩
          · simp only [List.take_succ_cons, semT, hc, k1, if_pos hlt]
          · simp only [List.take_succ_cons, semT, hc, k5, if_pos hlt, List.getElem_cons_succ, List.append_assoc]
          · rw [k6]; simp [List.append_assoc]
      · cases hs
    · cases hs
end Go.Proofs.Ytmihblfjhoblmaa

/- Tags.AppendEach at the seat: the tags' octets, by rising numbers. -/
namespace Go.Proofs.Ytmihblfjhoblmaa.Rdk
open Go Go.RowKit

set_option maxRecDepth 100000
/-- Nothing has turned but block bx, d's own block and new ones. -/
structure GrewB (bx : Nat) (w w' : World) (d d' : Value) : Prop where
  chg : Chg (fun j => j = bx ∨ d.ownBlock = some j) w w'
  fresh : d'.ownBlock = d.ownBlock ∨ ∀ g, d'.ownBlock = some g → w.heap.size ≤ g
theorem Own.under {w w' : World} {B u8 : Nat} {d : Value} {xs : List UInt8} (h : Own w B u8 d xs) (hb : Below w.heap.size w w') : Own w' B u8 d xs := by
  refine h.kept (grown_of hb) ?_
  cases hd : d.ownBlock with
  | none => exact .inl rfl
  | some g => exact .inr (by simp)
/-- What is owned is a slice of octets. -/
theorem GrewB.refl (bx : Nat) (w : World) (d : Value) : GrewB bx w w d d := ⟨Chg.refl _ _, .inl rfl⟩
theorem GrewB.trans {bx : Nat} {a b c : World} {d e f : Value} (h : GrewB bx a b d e) (k : GrewB bx b c e f) : GrewB bx a c d f := by
  refine ⟨⟨k.chg.os.trans h.chg.os, k.chg.tape.trans h.chg.tape, k.chg.output.trans h.chg.output, Nat.le_trans h.chg.size k.chg.size, fun i hi hne => ?_⟩, ?_⟩
  · rw [← h.chg.block i hi hne]
    refine k.chg.block i (Nat.lt_of_lt_of_le hi h.chg.size) (fun e' => ?_)
    rcases e' with e' | e'
    · exact hne (.inl e')
    · rcases h.fresh with hf | hf
      · exact hne (.inr (hf.symm.trans e'))
      · have := hf i e'; omega
  · rcases k.fresh with kf | kf
    · rcases h.fresh with hf | hf
      · exact .inl (kf.trans hf)
      · exact .inr (fun g hg => hf g (kf ▸ hg))
    · exact .inr (fun g hg => Nat.le_trans h.chg.size (kf g hg))
theorem GrewB.grew {bx : Nat} {w w' : World} {d d' : Value} (h : Grew w w' d d') : GrewB bx w w' d d' :=
  ⟨⟨h.grown.os, h.grown.tape, h.grown.output, h.grown.size, fun k hk hn => h.grown.block k hk (fun e => hn (.inr e.symm))⟩, h.fresh⟩
theorem GrewB.stored {bx : Nat} {w w' : World} (d : Value) (h : w.grownBy w' (some bx)) : GrewB bx w w' d d := ⟨(Chg.grown h).wide (fun _ h => .inl h), .inl rfl⟩
theorem GrewB.ne {bx : Nat} {w w' : World} {d d' : Value} (h : GrewB bx w w' d d') (hne : d.ownBlock ≠ some bx) (hlt : bx < w.heap.size) : d'.ownBlock ≠ some bx := by
  rcases h.fresh with hf | hf
  · rw [hf]; exact hne
  · intro e; have := hf bx e; omega
theorem Src.chg {S : Nat → Prop} {w w' : World} {B : Nat} {v : Value} {ys : List UInt8} (h : Src w B v ys) (hc : Chg S w w') (hS : ∀ j, j < B → ¬ S j) (hB : B ≤ w.heap.size) : Src w' B v ys := by
  refine ⟨?_, h.2⟩
  rcases h.1 with ⟨a, c, rfl, rfl⟩ | ⟨b, off, c, rfl, hcs⟩
  · exact .inl ⟨a, c, rfl, rfl⟩
  · rcases h.2 with rfl | h2
    · exact .inl ⟨_, _, rfl, rfl⟩
    have hb : b < B := h2 b rfl
    exact .inr ⟨b, off, c, rfl, hcs.of_block (hc.block b (by omega) (hS b hb))⟩
theorem GrewB.low {bx B : Nat} {w w' : World} {d d' : Value} (h : GrewB bx w w' d d') (hBx : B ≤ bx) (hd : ∀ g, d.ownBlock = some g → B ≤ g) (hB : B ≤ w.heap.size) : Below B w w' :=
  ⟨h.chg.os, h.chg.tape, h.chg.output, h.chg.size, fun k hk => h.chg.block k (by omega) (fun e => by
    rcases e with e | e
    · omega
    · have := hd k e; omega)⟩
theorem own_one {w : World} {B u8 : Nat} {d : Value} {xs : List UInt8} (h : Own w B u8 d xs) : d.oneCell' = true := by
  obtain ⟨a, c, rfl⟩ := h.shape
  rfl
set_option maxHeartbeats 1000000 in
theorem fn_put1 (w : World) (bx B k : Nat) (val d : Value) (xs cs : List UInt8) (e : TypeId) (hbx : Box w bx [d] e) (hBx : B ≤ bx) (ho : Own w B 5 d xs) (hB : B ≤ w.heap.size) (hne : d.ownBlock ≠ some bx) (hv : Src w B val cs) (hk : k < 4294967296) (hc : cs.length < 2147483648)
    (hl : xs.length + (uvar k ++ uvar cs.length ++ cs).length ≤ lim) :
    Calls Try.prog 126 #[.int .u32 (k : Int), val, .pointer (some ⟨bx, 0, none⟩)] w fun en w' => en = .returned (.tuple #[]) ∧ ∃ d', Box w' bx [d'] e ∧ Own w' B 5 d' (xs ++ (uvar k ++ uvar cs.length ++ cs)) ∧ GrewB bx w w' d d' := by
  obtain ⟨va, vc, rfl⟩ := hv.1.shape
  simp only [List.length_append] at hl
  refine enter (vs := [.int .u32 (k : Int), .slice va cs.length vc, .pointer (some ⟨bx, 0, none⟩)]) Try.func126 rfl Try.ntmps126 rfl ?_
  repeat first|(with_reducible first|apply wc_seq|apply wc_region|apply wl_nil|apply qk_thn|apply wc_block|apply wc_skip|apply wc_ret|apply wc_exit|apply qk_thn_ret|apply qk_in_ret|apply qk_in|apply qk_thn_exit|apply qk_in_exit|apply qk_round_ret|apply qk_round_exit)|((with_reducible apply ws);exact rfl;exact rfl)|((with_reducible apply wl_yes);exact rfl;exact rfl;exact rfl)|((with_reducible apply wl_no);exact rfl;exact rfl;exact rfl;exact rfl)|((with_reducible apply wl_noU);exact rfl;exact rfl;exact rfl)
  refine wl_loadB rfl to_bytes rfl hbx rfl ?_
  repeat first|(with_reducible first|apply wc_seq|apply wc_region|apply wl_nil|apply qk_thn|apply wc_block|apply wc_skip|apply wc_ret|apply wc_exit|apply qk_thn_ret|apply qk_in_ret|apply qk_in|apply qk_thn_exit|apply qk_in_exit|apply qk_round_ret|apply qk_round_exit)|((with_reducible apply ws);exact rfl;exact rfl)|((with_reducible apply wl_yes);exact rfl;exact rfl;exact rfl)|((with_reducible apply wl_no);exact rfl;exact rfl;exact rfl;exact rfl)|((with_reducible apply wl_noU);exact rfl;exact rfl;exact rfl)
  refine wl_call rfl (by kernel_rfl) rfl ((appendUvarint k hk d w B xs trivial ho hB (by omega)).mono ?_)
  rintro en w1 ⟨d1, rfl, ho1, hg1⟩
  refine ⟨d1, rfl, ?_⟩
  have hb1 := hbx.kept hg1.grown (fun e => hne e.symm)
  have hs1 := hg1.grown.size
  refine wl_storeB rfl rfl to_bytes (own_one ho1) hb1 rfl (fun w2 hb2 hg2 hs2 => ?_)
  have hG1 : GrewB bx w w1 d d1 := GrewB.grew hg1
  have hn1 := hG1.ne hne hbx.lt
  have ho2 := ho1.kept hg2 (.inr hn1)
  have hG2 := hG1.trans (GrewB.stored d1 hg2)
  have hsz2 : w.heap.size ≤ w2.heap.size := by omega
  repeat first|(with_reducible first|apply wc_seq|apply wc_region|apply wl_nil|apply qk_thn|apply wc_block|apply wc_skip|apply wc_ret|apply wc_exit|apply qk_thn_ret|apply qk_in_ret|apply qk_in|apply qk_thn_exit|apply qk_in_exit|apply qk_round_ret|apply qk_round_exit)|((with_reducible apply ws);exact rfl;exact rfl)|((with_reducible apply wl_yes);exact rfl;exact rfl;exact rfl)|((with_reducible apply wl_no);exact rfl;exact rfl;exact rfl;exact rfl)|((with_reducible apply wl_noU);exact rfl;exact rfl;exact rfl)
  refine wl_loadB rfl to_bytes rfl hb2 rfl ?_
  repeat first|(with_reducible first|apply wc_seq|apply wc_region|apply wl_nil|apply qk_thn|apply wc_block|apply wc_skip|apply wc_ret|apply wc_exit|apply qk_thn_ret|apply qk_in_ret|apply qk_in|apply qk_thn_exit|apply qk_in_exit|apply qk_round_ret|apply qk_round_exit)|((with_reducible apply ws);exact rfl;exact rfl)|((with_reducible apply wl_yes);exact rfl;exact rfl;exact rfl)|((with_reducible apply wl_no);exact rfl;exact rfl;exact rfl;exact rfl)|((with_reducible apply wl_noU);exact rfl;exact rfl;exact rfl)
  refine wl_conv .u32 rfl ti_i64 ti_u32 rfl (r := ((cs.length : Nat) : Int)) (by rw [IntKind.wrap_u32]; omega) ?_
  repeat first|(with_reducible first|apply wc_seq|apply wc_region|apply wl_nil|apply qk_thn|apply wc_block|apply wc_skip|apply wc_ret|apply wc_exit|apply qk_thn_ret|apply qk_in_ret|apply qk_in|apply qk_thn_exit|apply qk_in_exit|apply qk_round_ret|apply qk_round_exit)|((with_reducible apply ws);exact rfl;exact rfl)|((with_reducible apply wl_yes);exact rfl;exact rfl;exact rfl)|((with_reducible apply wl_no);exact rfl;exact rfl;exact rfl;exact rfl)|((with_reducible apply wl_noU);exact rfl;exact rfl;exact rfl)
  refine wl_call rfl (by kernel_rfl) rfl ((appendUvarint cs.length (by omega) d1 w2 B _ trivial ho2 (by omega) (by rw [List.length_append]; omega)).mono ?_)
  rintro en w3 ⟨d3, rfl, ho3, hg3⟩
  refine ⟨d3, rfl, ?_⟩
  have hb3 := hb2.kept hg3.grown (fun e => hn1 e.symm)
  have hs3 := hg3.grown.size
  refine wl_storeB rfl rfl to_bytes (own_one ho3) hb3 rfl (fun w4 hb4 hg4 hs4 => ?_)
  have hG3 := hG2.trans (GrewB.grew hg3)
  have hn3 := hG3.ne hne hbx.lt
  have ho4 := ho3.kept hg4 (.inr hn3)
  have hG4 := hG3.trans (GrewB.stored d3 hg4)
  repeat first|(with_reducible first|apply wc_seq|apply wc_region|apply wl_nil|apply qk_thn|apply wc_block|apply wc_skip|apply wc_ret|apply wc_exit|apply qk_thn_ret|apply qk_in_ret|apply qk_in|apply qk_thn_exit|apply qk_in_exit|apply qk_round_ret|apply qk_round_exit)|((with_reducible apply ws);exact rfl;exact rfl)|((with_reducible apply wl_yes);exact rfl;exact rfl;exact rfl)|((with_reducible apply wl_no);exact rfl;exact rfl;exact rfl;exact rfl)|((with_reducible apply wl_noU);exact rfl;exact rfl;exact rfl)
  refine wl_loadB rfl to_bytes rfl hb4 rfl ?_
  repeat first|(with_reducible first|apply wc_seq|apply wc_region|apply wl_nil|apply qk_thn|apply wc_block|apply wc_skip|apply wc_ret|apply wc_exit|apply qk_thn_ret|apply qk_in_ret|apply qk_in|apply qk_thn_exit|apply qk_in_exit|apply qk_round_ret|apply qk_round_exit)|((with_reducible apply ws);exact rfl;exact rfl)|((with_reducible apply wl_yes);exact rfl;exact rfl;exact rfl)|((with_reducible apply wl_no);exact rfl;exact rfl;exact rfl;exact rfl)|((with_reducible apply wl_noU);exact rfl;exact rfl;exact rfl)
  have hv4 : Src w4 B (.slice va cs.length vc) cs := Src.chg hv hG4.chg (fun j hj e => by
    rcases e with e | e
    · omega
    · have := ho.ge j e; omega) hB
  refine wl_appSl tb_bytes tb_bytes rfl rfl rfl hv4.1 ho4 (by omega) (by simp only [List.length_append]; omega) (fun d5 w5 ho5 hg5 => ?_)
  have hb5 := hb4.kept hg5.grown (fun e => hn3 e.symm)
  have hG5 := hG4.trans (GrewB.grew hg5)
  have hn5 := hG5.ne hne hbx.lt
  refine wl_storeB rfl rfl to_bytes (own_one ho5) hb5 rfl (fun w6 hb6 hg6 hs6 => ?_)
  have ho6 := ho5.kept hg6 (.inr hn5)
  have hG6 := hG5.trans (GrewB.stored d5 hg6)
  refine wl_nil ?_
  refine qk_end0 rfl ⟨rfl, d5, hb6, ?_, hG6⟩
  simpa [List.append_assoc] using ho6

theorem rt_u32 : rowTy Try.prog 181 62 1 = true := by kernel_rfl
theorem to_u32s : tyOne Try.prog 181 = true := by kernel_rfl
theorem es_u32s : elemSize Try.prog 181 = some 1 := by kernel_rfl
theorem el_u32s : (elemSize Try.prog 181).isSome = true := by kernel_rfl
theorem un_u32s : Try.prog.underlying 181 = some (.slice 62) := by kernel_rfl
theorem zv_u32s (w : World) : (zeroValue 181).run Try.prog w = .ok (.slice none 0 0) w := by kernel_rfl
theorem ne_u32s : (181 : Nat) ≠ 62 := by decide
theorem rising_len : ∀ (l : List Nat) (lo M : Nat), l.Pairwise (· < ·) → (∀ x ∈ l, lo ≤ x ∧ x < M) → l.length ≤ M - lo
  | [], _, _, _, _ => by simp
  | x :: l, lo, M, hp, h => by
    have hp' := List.pairwise_cons.1 hp
    have hx := h x (by simp)
    have := rising_len l (x + 1) M hp'.2 (fun y hy => ⟨hp'.1 y hy, (h y (by simp [hy])).2⟩)
    simp only [List.length_cons]; omega
theorem semT_keys {kvs : List (Nat × D)} {ys : List UInt8} (h : semT kvs = some ys) : ∀ k ∈ kvs.map (·.1), k < 4294967296 := by
  intro k hk
  obtain ⟨kv, hkv, rfl⟩ := List.mem_map.1 hk
  obtain ⟨i, hi, rfl⟩ := List.mem_iff_getElem.1 hkv
  obtain ⟨_, _, _, _, _, h3, _⟩ := semT_at kvs ys h i hi
  exact h3
theorem row_block {w : World} {B e sz n g : Nat} {d : Value} {xs : List Value} (h : w.ownsRow B e sz d n xs) (hg : d.ownBlock = some g) : ∃ cur, w.heap[g]? = some (.cells cur e (0, 0)) := by
  rcases h.2 with ⟨rfl, _⟩ | ⟨g', cap', cur, rfl, _, hheap, _⟩
  · simp [Value.ownBlock] at hg
  · simp only [Value.ownBlock, Option.some.injEq] at hg; subst hg; exact ⟨cur, hheap⟩
theorem Row.kept {w w' : World} {B e sz n : Nat} {d : Value} {xs : List Value} {row : Option Nat} (h : w.ownsRow B e sz d n xs) (hg : w.grownBy w' row) (hne : d.ownBlock = none ∨ d.ownBlock ≠ row) : w'.ownsRow B e sz d n xs :=
  World.ownsRow.kept h hg hne
theorem nodup_one {α β : Type} (f : α → β) : ∀ (l : List α), (l.map f).Nodup → ∀ x ∈ l, ∀ y ∈ l, f x = f y → x = y
  | [], _, x, hx, _, _, _ => by cases hx
  | a :: l, hn, x, hx, y, hy, h => by
    simp only [List.map_cons, List.nodup_cons] at hn
    rcases List.mem_cons.1 hx with e1 | h1
    · rcases List.mem_cons.1 hy with e2 | h2
      · rw [e1, e2]
      · exact (hn.1 (List.mem_map.2 ⟨y, h2, by rw [← h, e1]⟩)).elim
    · rcases List.mem_cons.1 hy with e2 | h2
      · exact (hn.1 (List.mem_map.2 ⟨x, h1, by rw [h, e2]⟩)).elim
      · exact nodup_one f l hn.2 x h1 y h2 h
theorem leftOf_nil (es : Array MapEntry) : leftOf es #[] = es := by
  unfold leftOf
  exact Array.filter_eq_self.2 (by simp)
theorem arOf {B : Nat} {w : World} {d : D} {s : Bool × List D} {v : Value} (h : sliceOf d = some s) (hr : Rep (Lo B) w d [v]) : ArOk B w (.d d) v := by
  cases d <;> first | exact hr | (simp [sliceOf] at h)
set_option maxHeartbeats 4000000 in
theorem fn_each (w : World) (bx B b off : Nat) (kvs : List (Nat × D)) (v d : Value) (xs ys : List UInt8) (e : TypeId) (hs : semT kvs = some ys) (hb : b < B) (hc : w.cell? ⟨b, off, none⟩ = some v) (hr : Rep (Lo B) w (.mp kvs) [v]) (hbx : Box w bx [d] e) (hBx : B ≤ bx) (ho : Own w B 5 d xs) (hB : B ≤ w.heap.size) (hne : d.ownBlock ≠ some bx)
    (hl : xs.length + ys.length ≤ lim) :
    Calls Try.prog 125 #[.pointer (some ⟨b, off, none⟩), .func (.func 126) #[] #[.pointer (some ⟨bx, 0, none⟩)]] w fun en w' => en = .returned (.tuple #[]) ∧ ∃ d', Box w' bx [d'] e ∧ Own w' B 5 d' (xs ++ ys) ∧ GrewB bx w w' d d' := by
  obtain ⟨m, rfl, hm⟩ := mp_len hr
  refine enter (vs := [.pointer (some ⟨b, off, none⟩), .func (.func 126) #[] #[.pointer (some ⟨bx, 0, none⟩)]]) Try.func125 rfl Try.ntmps125 rfl ?_
  refine wc_seq (wc_seq (wc_region ?_))
  refine wt rfl rfl ?_
  refine wt rfl rfl ?_
  refine wt rfl rfl ?_
  refine wl_load rfl to_map rfl hc ?_
  refine wl_lenMap rfl um hm rfl ?_
  refine wt rfl rfl ?_
  refine wl_nil (qk_thn ?_)
  by_cases hz : kvs = []
  · subst hz
    simp only [semT, Option.some.injEq] at hs
    subst hs
    refine wc_yes rfl rfl (wc_ret (qk_thn_ret (qk_ret0 rfl ⟨rfl, d, hbx, by simpa using ho, GrewB.refl _ _ _⟩)))
  have hpos : 0 < kvs.length := List.length_pos_iff.2 hz
  refine wc_no rfl (by simp; omega) (wc_skip (qk_thn ?_))
  simp only [Rep] at hr
  rcases hr with ⟨_, h0⟩ | ⟨r, es, clock, hrm, hrB, hmap, hmapd, hks⟩
  · exact absurd h0 hz
  simp only [List.cons.injEq, Value.map.injEq, and_true] at hrm
  subst hrm
  rw [repKs_iff] at hks
  have hkeys := semT_keys hs
  have hlen32 : kvs.length ≤ 4294967296 := by
    have := rising_len (kvs.map (·.1)) 0 4294967296 hmapd.2.2.2 (fun x hx => ⟨Nat.zero_le _, hkeys x hx⟩)
    simpa using this
  have hbw : b < w.heap.size := by omega
  have hrw : r < w.heap.size := by have : r < B := hrB; omega
  refine wc_seq (wc_region ?_)
  refine wt rfl rfl ?_
  refine wt rfl rfl ?_
  refine wt rfl rfl ?_
  refine wl_load rfl to_map rfl hc ?_
  refine wl_lenMap rfl um hm rfl ?_
  refine wl_makeRow (B := w.heap.size) (n := kvs.length) rt_u32 rfl (by simp only [many]; omega) rfl (Nat.le_refl _) (fun w1 hrow1 hg1 hs1 => ?_)
  refine wl_alloc zv_u32s rfl rfl (fun w2 hb2 hg2 hs2 => ?_)
  refine wl_storeB rfl rfl to_u32s rfl hb2 rfl (fun w3 hb3' hg3 hs3 => ?_)
  have hb3 : Box w3 w1.heap.size [.slice (some ⟨w.heap.size, 0, none⟩) 0 kvs.length] 181 := hb3'
  clear hb3'
  have hrow3 := Row.kept (Row.kept hrow1 hg2 (.inr (by simp [Value.ownBlock]))) hg3 (.inr (by simp [Value.ownBlock]; omega))
  have hc13 : Chg (fun j => w.heap.size ≤ j) w w3 := ((Chg.grown0 hg1).trans (Chg.grown0 hg2)).trans ((Chg.grown hg3).wide (fun j hj => by have : j = w1.heap.size := hj; omega))
  have hmap3 : w3.heap[r]? = some (.map es clock) := (hc13.block r hrw (by omega)).trans hmap
  have hcell3 : w3.cell? ⟨b, off, none⟩ = some (.map (some r)) := by
    rw [← hc]; simp only [World.cell?, hc13.block b hbw (by omega)]
  refine wl_nil (qk_thn ?_)
  refine wc_seq (wc_seq (wc_region ?_))
  refine wt rfl rfl ?_
  refine wt rfl rfl ?_
  refine wt rfl rfl ?_
  refine wl_load rfl to_map rfl hcell3 ?_
  refine wl_range rfl um hmap3 rfl ?_
  have hit4 : (w3.alloc (.mapIter (some r) clock #[] clock)).heap[w3.heap.size]? = some (.mapIter (some r) clock #[] clock) := heap_alloc_new _ _
  have hs4 : (w3.alloc (.mapIter (some r) clock #[] clock)).heap.size = w3.heap.size + 1 := by simp
  have hg4 := grown_alloc w3 (.mapIter (some r) clock #[] clock)
  generalize w3.alloc (.mapIter (some r) clock #[] clock) = w4 at *
  have hb4 := hb3.kept hg4 (by simp)
  have hrow4 := Row.kept hrow3 hg4 (.inr (by simp [Value.ownBlock]))
  have hc14 : Chg (fun j => w.heap.size ≤ j) w w4 := hc13.trans (Chg.grown0 hg4)
  refine wl_nil (qk_thn ?_)
  refine wc_block (wc_loop (α := List Int × Value × Array Nat × Nat) (fun _ => [(0, .pointer (some ⟨b, off, none⟩)), (1, .func (.func 126) #[] #[.pointer (some ⟨bx, 0, none⟩)]), (4, .pointer (some ⟨w1.heap.size, 0, none⟩)), (24, .pointer (some ⟨w3.heap.size, 0, none⟩))])
    (fun z w' => Box w' w1.heap.size [z.2.1] 181 ∧ w'.ownsRow w.heap.size 62 1 z.2.1 z.1.length (z.1.map encU) ∧ w'.heap[w3.heap.size]? = some (.mapIter (some r) clock z.2.2.1 z.2.2.2) ∧ clock ≤ z.2.2.2 ∧
      (z.1.map encU ++ (leftOf es z.2.2.1).toList.map (·.key)).Perm (es.toList.map (·.key)) ∧ Chg (fun j => w.heap.size ≤ j) w w')
    (fun z => (leftOf es z.2.2.1).size) ([], .slice (some ⟨w.heap.size, 0, none⟩) 0 kvs.length, #[], clock) ⟨rfl, rfl, rfl, rfl, trivial⟩ ⟨hb4, hrow4, hit4, Nat.le_refl _, ?_, hc14⟩ ?_)
  · simp [leftOf_nil]
  · rintro ⟨zs, dv, seen, c0⟩ w5 ⟨hb5, hrow5, hit5, hcl5, hperm5, hc5⟩
    simp only [] at hb5 hrow5 hit5 hcl5 hperm5
    have hmap5 : w5.heap[r]? = some (.map es clock) := (hc5.block r hrw (by omega)).trans hmap
    refine wc_seq (wc_region ?_)
    refine wl_next rfl hit5 hmap5 hmapd.2.1.1 hcl5 rfl (fun hleft => ?_) (fun en hen w6 hit6 hc6 hs6 => ?_)
    · -- nothing is left
      have hl0 : (leftOf es seen).toList = [] := List.length_eq_zero_iff.1 (by simpa using hleft)
      rw [hl0] at hperm5
      simp only [List.map_nil, List.append_nil] at hperm5
      have hzl : zs.length = kvs.length := by
        have := hperm5.length_eq
        simp only [List.length_map, Array.length_toList] at this
        rw [this, hmapd.1, List.length_map]
      obtain ⟨g, cap, rfl, hBg, hglt, _⟩ := Row.cells hrow5 (by omega)
      obtain ⟨cur, hcur⟩ := row_block (g := g) hrow5 rfl
      have hog : w1.heap.size ≠ g := by
        intro e'
        have h1 : w5.heap[w1.heap.size]? = some (.cells cur 62 (0, 0)) := by rw [e']; exact hcur
        have h2 := hb5
        simp only [Box, h1, Option.some.injEq, Obj.cells.injEq] at h2
        exact ne_u32s h2.2.1.symm
      refine wl_extract rfl rfl rfl ?_
      repeat first|(with_reducible first|apply wc_seq|apply wc_region|apply wl_nil|apply qk_thn|apply wc_block|apply wc_skip|apply wc_ret|apply wc_exit|apply qk_thn_ret|apply qk_in_ret|apply qk_in|apply qk_thn_exit|apply qk_in_exit|apply qk_round_ret|apply qk_round_exit)|((with_reducible apply ws);exact rfl;exact rfl)|((with_reducible apply wl_yes);exact rfl;exact rfl;exact rfl)|((with_reducible apply wl_no);exact rfl;exact rfl;exact rfl;exact rfl)|((with_reducible apply wl_noU);exact rfl;exact rfl;exact rfl)
      refine wc_no rfl rfl ?_
      repeat first|(with_reducible first|apply wc_seq|apply wc_region|apply wl_nil|apply qk_thn|apply wc_block|apply wc_skip|apply wc_ret|apply wc_exit|apply qk_thn_ret|apply qk_in_ret|apply qk_in|apply qk_thn_exit|apply qk_in_exit|apply qk_round_ret|apply qk_round_exit)|((with_reducible apply ws);exact rfl;exact rfl)|((with_reducible apply wl_yes);exact rfl;exact rfl;exact rfl)|((with_reducible apply wl_no);exact rfl;exact rfl;exact rfl;exact rfl)|((with_reducible apply wl_noU);exact rfl;exact rfl;exact rfl)
      refine wl_loadB rfl to_u32s rfl hb5 rfl ?_
      refine wl_makeIface rfl un_u32s rfl ?_
      refine wl_makeFunc (caps := [.tmp 4]) rfl rfl ?_
      refine wl_call rfl (by kernel_rfl) rfl ((fn_sort w5 w.heap.size g cap w1.heap.size _ zs (by omega) hb5 hrow5 hog).mono ?_)
      rintro en w6 ⟨rfl, zs', hp', hso', hcs6, hc6⟩
      refine ⟨_, rfl, ?_⟩
      have hzz : zs' = (kvs.map (·.1)).map (fun k : Nat => (k : Int)) := keys_sorted hmapd (fun k hk => by
        obtain ⟨kv, hkv, rfl⟩ := List.mem_map.1 hk
        obtain ⟨x, hx, hxk, _⟩ := hks kv hkv
        exact ⟨x, hx, hxk⟩) hperm5 hp' hso'
      subst hzz
      have hc06 : Chg (fun j => w.heap.size ≤ j) w w6 := hc5.trans (hc6.wide (fun j hj => by have : j = g := hj; omega))
      have hw6 : Below w.heap.size w w6 := ⟨hc06.os, hc06.tape, hc06.output, hc06.size, fun k hk => hc06.block k hk (by omega)⟩
      have hb6 := hb5.chg hc6 hog
      have hbx6 := hbx.chg hc06 (by have := hbx.lt; omega)
      have ho6 := Own.under ho hw6
      repeat first|(with_reducible first|apply wc_seq|apply wc_region|apply wl_nil|apply qk_thn|apply wc_block|apply wc_skip|apply wc_ret|apply wc_exit|apply qk_thn_ret|apply qk_in_ret|apply qk_in|apply qk_thn_exit|apply qk_in_exit|apply qk_round_ret|apply qk_round_exit)|((with_reducible apply ws);exact rfl;exact rfl)|((with_reducible apply wl_yes);exact rfl;exact rfl;exact rfl)|((with_reducible apply wl_no);exact rfl;exact rfl;exact rfl;exact rfl)|((with_reducible apply wl_noU);exact rfl;exact rfl;exact rfl)
      refine wl_loadB rfl to_u32s rfl hb6 rfl ?_
      refine wl_len rfl el_u32s rfl ?_
      repeat first|(with_reducible first|apply wc_seq|apply wc_region|apply wl_nil|apply qk_thn|apply wc_block|apply wc_skip|apply wc_ret|apply wc_exit|apply qk_thn_ret|apply qk_in_ret|apply qk_in|apply qk_thn_exit|apply qk_in_exit|apply qk_round_ret|apply qk_round_exit)|((with_reducible apply ws);exact rfl;exact rfl)|((with_reducible apply wl_yes);exact rfl;exact rfl;exact rfl)|((with_reducible apply wl_no);exact rfl;exact rfl;exact rfl;exact rfl)|((with_reducible apply wl_noU);exact rfl;exact rfl;exact rfl)
      refine wc_loop (α := Nat × Value) (fun z => [(0, .pointer (some ⟨b, off, none⟩)), (1, .func (.func 126) #[] #[.pointer (some ⟨bx, 0, none⟩)]), (37, .slice (some ⟨g, 0, none⟩) zs.length cap), (38, .int .i64 (zs.length : Int)), (39, .int .i64 (z.1 : Int))])
        (fun z w' => z.1 ≤ kvs.length ∧ Box w' bx [z.2] e ∧ (∃ pre, semT (kvs.take z.1) = some pre ∧ Own w' B 5 z.2 (xs ++ pre)) ∧ GrewB bx w6 w' d z.2)
        (fun z => kvs.length - z.1) (0, d) ⟨rfl, rfl, rfl, rfl, rfl, trivial⟩ ⟨Nat.zero_le _, hbx6, ⟨[], by simp [semT], by simpa using ho6⟩, GrewB.refl _ _ _⟩ ?_
      rintro ⟨i, di⟩ w7 ⟨hin, hb7, ⟨pre, hpre, ho7⟩, hG7⟩
      simp only [] at hin hb7 hpre ho7 hG7
      have hs7 := hG7.chg.size
      have hs6 := hc06.size
      repeat first|(with_reducible first|apply wc_seq|apply wc_region|apply wl_nil|apply qk_thn|apply wc_block|apply wc_skip|apply wc_ret|apply wc_exit|apply qk_thn_ret|apply qk_in_ret|apply qk_in|apply qk_thn_exit|apply qk_in_exit|apply qk_round_ret|apply qk_round_exit)|((with_reducible apply ws);exact rfl;exact rfl)|((with_reducible apply wl_yes);exact rfl;exact rfl;exact rfl)|((with_reducible apply wl_no);exact rfl;exact rfl;exact rfl;exact rfl)|((with_reducible apply wl_noU);exact rfl;exact rfl;exact rfl)
      by_cases hi : i < kvs.length
      · refine wc_yes rfl (by simp; omega) ?_
        repeat first|(with_reducible first|apply wc_seq|apply wc_region|apply wl_nil|apply qk_thn|apply wc_block|apply wc_skip|apply wc_ret|apply wc_exit|apply qk_thn_ret|apply qk_in_ret|apply qk_in|apply qk_thn_exit|apply qk_in_exit|apply qk_round_ret|apply qk_round_exit)|((with_reducible apply ws);exact rfl;exact rfl)|((with_reducible apply wl_yes);exact rfl;exact rfl;exact rfl)|((with_reducible apply wl_no);exact rfl;exact rfl;exact rfl;exact rfl)|((with_reducible apply wl_noU);exact rfl;exact rfl;exact rfl)
        obtain ⟨pre', cs, post, k1, k2, k3, k4, k5, k6⟩ := semT_at kvs ys hs i hi
        rw [hpre] at k1
        simp only [Option.some.injEq] at k1
        subst k1
        have hkeep : ∀ j, j < w.heap.size → j ≠ bx → (B ≤ j → d.ownBlock ≠ some j) → w7.heap[j]? = w.heap[j]? := fun j hj h1 h2 => by
          rw [hG7.chg.block j (by omega) (fun h => by
            rcases h with h | h
            · exact h1 h
            · exact h2 (ho.ge j h) h)]
          exact hc06.block j hj (by omega)
        have hgk : w7.heap[g]? = w6.heap[g]? := hG7.chg.block g (by have := hc6.size; omega) (fun h => by
          rcases h with h | h
          · have := hbx.lt; omega
          · have := ho.lt g h; omega)
        refine wl_indexAddr rfl rfl es_u32s rfl (by omega) ?_
        refine wl_load rfl to_u32 rfl (v := .int .u32 ((kvs[i].1 : Nat) : Int)) ?_ ?_
        · have h1 := (hcs6.of_block hgk).cell (i := i) (v := encU ((kvs[i].1 : Nat) : Int)) (by simp [hi])
          rw [Nat.mul_one]; exact h1
        repeat first|(with_reducible first|apply wc_seq|apply wc_region|apply wl_nil|apply qk_thn|apply wc_block|apply wc_skip|apply wc_ret|apply wc_exit|apply qk_thn_ret|apply qk_in_ret|apply qk_in|apply qk_thn_exit|apply qk_in_exit|apply qk_round_ret|apply qk_round_exit)|((with_reducible apply ws);exact rfl;exact rfl)|((with_reducible apply wl_yes);exact rfl;exact rfl;exact rfl)|((with_reducible apply wl_no);exact rfl;exact rfl;exact rfl;exact rfl)|((with_reducible apply wl_noU);exact rfl;exact rfl;exact rfl)
        refine wt rfl rfl ?_
        refine wl_load rfl to_map rfl (v := .map (some r)) ?_ ?_
        · rw [← hc]
          show w7.cell? ⟨b, off, none⟩ = _
          simp only [World.cell?, hkeep b hbw (by omega) (fun h => by omega)]
        have hrB' : r < B := hrB
        have hmap7 : w7.heap[r]? = some (.map es clock) := (hkeep r hrw (by omega) (fun h => by omega)).trans hmap
        have hkin : kvs[i] ∈ kvs := List.getElem_mem hi
        obtain ⟨x0, hx0, hx0k, hx0r⟩ := hks kvs[i] hkin
        repeat first|(with_reducible first|apply wc_seq|apply wc_region|apply wl_nil|apply qk_thn|apply wc_block|apply wc_skip|apply wc_ret|apply wc_exit|apply qk_thn_ret|apply qk_in_ret|apply qk_in|apply qk_thn_exit|apply qk_in_exit|apply qk_round_ret|apply qk_round_exit)|((with_reducible apply ws);exact rfl;exact rfl)|((with_reducible apply wl_yes);exact rfl;exact rfl;exact rfl)|((with_reducible apply wl_no);exact rfl;exact rfl;exact rfl;exact rfl)|((with_reducible apply wl_noU);exact rfl;exact rfl;exact rfl)
        refine wl_lookup rfl rfl um uk hmap7 hmapd ⟨x0, hx0, hx0k⟩ rfl (fun en hen hek => ?_)
        obtain rfl : en = x0 := nodup_one (·.key) es.toList hmapd.2.1.2.2 en (Array.mem_toList_iff.2 hen) x0 (Array.mem_toList_iff.2 hx0) (by rw [hek, hx0k])
        obtain ⟨s0, hs0, hbs0⟩ := Option.bind_eq_some_iff.1 k2
        have hsrc : Src w B en.val cs := srcOf (n := s0.1) (ds := s0.2) hs0 hbs0 (arOf hs0 hx0r)
        have hsrc7 : Src w7 B en.val cs := Src.chg (Src.chg hsrc hc06 (fun j hj => by omega) (by omega)) hG7.chg (fun j hj h => by
          rcases h with h | h
          · omega
          · have := ho.ge j h; omega) (by omega)
        have hll : (xs ++ pre).length + (uvar kvs[i].1 ++ uvar cs.length ++ cs).length ≤ lim := by
          rw [k6] at hl
          simp only [List.length_append] at hl ⊢
          omega
        refine wl_callV (vs := [.int .u32 ((kvs[i].1 : Nat) : Int), en.val]) (bs := [.pointer (some ⟨bx, 0, none⟩)]) (args := [.tmp 44, .tmp 50]) rfl rfl (by kernel_rfl) rfl ((fn_put1 w7 bx B kvs[i].1 en.val di (xs ++ pre) cs e hb7 hBx ho7 (by omega) (hG7.ne hne (by have := hbx.lt; omega)) hsrc7 k3 k4 hll).mono ?_)
        rintro en' w8 ⟨rfl, d8, hb8, ho8, hG8⟩
        refine ⟨_, rfl, ?_⟩
        repeat first|(with_reducible first|apply wc_seq|apply wc_region|apply wl_nil|apply qk_thn|apply wc_block|apply wc_skip|apply wc_ret|apply wc_exit|apply qk_thn_ret|apply qk_in_ret|apply qk_in|apply qk_thn_exit|apply qk_in_exit|apply qk_round_ret|apply qk_round_exit)|((with_reducible apply ws);exact rfl;exact rfl)|((with_reducible apply wl_yes);exact rfl;exact rfl;exact rfl)|((with_reducible apply wl_no);exact rfl;exact rfl;exact rfl;exact rfl)|((with_reducible apply wl_noU);exact rfl;exact rfl;exact rfl)
        refine wl_add rfl rfl rfl (r := ((i + 1 : Nat) : Int)) (by rw [IntKind.wrap_i64]; omega) ?_
        repeat first|(with_reducible first|apply wc_seq|apply wc_region|apply wl_nil|apply qk_thn|apply wc_block|apply wc_skip|apply wc_ret|apply wc_exit|apply qk_thn_ret|apply qk_in_ret|apply qk_in|apply qk_thn_exit|apply qk_in_exit|apply qk_round_ret|apply qk_round_exit)|((with_reducible apply ws);exact rfl;exact rfl)|((with_reducible apply wl_yes);exact rfl;exact rfl;exact rfl)|((with_reducible apply wl_no);exact rfl;exact rfl;exact rfl;exact rfl)|((with_reducible apply wl_noU);exact rfl;exact rfl;exact rfl)
        refine qk_round (i + 1, d8) ⟨rfl, rfl, rfl, rfl, rfl, trivial⟩ ⟨hi, hb8, ⟨_, k5, by simpa [List.append_assoc] using ho8⟩, hG7.trans hG8⟩ (by show kvs.length - (i + 1) < kvs.length - i; omega)
      · refine wc_no rfl (by simp; omega) ?_
        repeat first|(with_reducible first|apply wc_seq|apply wc_region|apply wl_nil|apply qk_thn|apply wc_block|apply wc_skip|apply wc_ret|apply wc_exit|apply qk_thn_ret|apply qk_in_ret|apply qk_in|apply qk_thn_exit|apply qk_in_exit|apply qk_round_ret|apply qk_round_exit)|((with_reducible apply ws);exact rfl;exact rfl)|((with_reducible apply wl_yes);exact rfl;exact rfl;exact rfl)|((with_reducible apply wl_no);exact rfl;exact rfl;exact rfl;exact rfl)|((with_reducible apply wl_noU);exact rfl;exact rfl;exact rfl)
        have hie : i = kvs.length := by omega
        rw [hie, List.take_length, hs] at hpre
        simp only [Option.some.injEq] at hpre
        subst hpre
        refine qk_end0 rfl ⟨rfl, di, hb7, ho7, ?_⟩
        refine ⟨⟨hG7.chg.os.trans hc06.os, hG7.chg.tape.trans hc06.tape, hG7.chg.output.trans hc06.output, by omega, fun k hk hn => (hG7.chg.block k (by omega) hn).trans (hc06.block k hk (by omega))⟩, ?_⟩
        rcases hG7.fresh with h | h
        · exact .inl h
        · exact .inr (fun q hq => by have := h q hq; omega)
    · -- one more key
      have hen' : en ∈ es.toList := by
        simp only [leftOf, Array.toList_filter, List.mem_filter] at hen
        exact hen.1
      obtain ⟨k, _, hek⟩ := hmapd.2.2.1 en hen'
      have hpush := leftOf_push hen hmapd.2.1.2.1
      have hzle : zs.length < es.size := by
        have h1 := hperm5.length_eq
        have h2 := hpush.length_eq
        simp only [List.length_append, List.length_map, Array.length_toList, List.length_cons] at h1 h2
        omega
      have hes : es.size = kvs.length := by rw [hmapd.1, List.length_map]
      have hs5 := hc5.size
      have hits : w3.heap.size < w5.heap.size := (Array.getElem?_eq_some_iff.1 hit5).1
      have hne5 : dv.ownBlock ≠ some w3.heap.size := by
        intro h
        obtain ⟨cur, hcur⟩ := row_block hrow5 h
        rw [hcur] at hit5; cases hit5
      have hno5 : dv.ownBlock ≠ some w1.heap.size := by
        intro h
        obtain ⟨cur, hcur⟩ := row_block hrow5 h
        have h2 := hb5
        simp only [Box, hcur, Option.some.injEq, Obj.cells.injEq] at h2
        exact ne_u32s h2.2.1.symm
      have hib : w1.heap.size ≠ w3.heap.size := by omega
      have hb6 := hb5.chg hc6 (fun h : w1.heap.size = w3.heap.size => hib h)
      have hg6 : w5.grownBy w6 (some w3.heap.size) := ⟨hc6.os, hc6.tape, hc6.output, hc6.size, fun j hj hn => hc6.block j hj (fun h => hn (by rw [h]))⟩
      have hrow6 := Row.kept hrow5 hg6 (.inr hne5)
      have hmap6 : w6.heap[r]? = some (.map es clock) := (hc6.block r (by omega) (fun h : r = w3.heap.size => by omega)).trans hmap5
      refine wl_extract rfl rfl rfl ?_
      repeat first|(with_reducible first|apply wc_seq|apply wc_region|apply wl_nil|apply qk_thn|apply wc_block|apply wc_skip|apply wc_ret|apply wc_exit|apply qk_thn_ret|apply qk_in_ret|apply qk_in|apply qk_thn_exit|apply qk_in_exit|apply qk_round_ret|apply qk_round_exit)|((with_reducible apply ws);exact rfl;exact rfl)|((with_reducible apply wl_yes);exact rfl;exact rfl;exact rfl)|((with_reducible apply wl_no);exact rfl;exact rfl;exact rfl;exact rfl)|((with_reducible apply wl_noU);exact rfl;exact rfl;exact rfl)
      refine wc_yes rfl rfl ?_
      repeat first|(with_reducible first|apply wc_seq|apply wc_region|apply wl_nil|apply qk_thn|apply wc_block|apply wc_skip|apply wc_ret|apply wc_exit|apply qk_thn_ret|apply qk_in_ret|apply qk_in|apply qk_thn_exit|apply qk_in_exit|apply qk_round_ret|apply qk_round_exit)|((with_reducible apply ws);exact rfl;exact rfl)|((with_reducible apply wl_yes);exact rfl;exact rfl;exact rfl)|((with_reducible apply wl_no);exact rfl;exact rfl;exact rfl;exact rfl)|((with_reducible apply wl_noU);exact rfl;exact rfl;exact rfl)
      refine wl_entry rfl hit6 hmap6 hen' hmapd.2.1.2.1 rfl ?_
      rw [hek]
      refine wl_extract rfl rfl rfl ?_
      repeat first|(with_reducible first|apply wc_seq|apply wc_region|apply wl_nil|apply qk_thn|apply wc_block|apply wc_skip|apply wc_ret|apply wc_exit|apply qk_thn_ret|apply qk_in_ret|apply qk_in|apply qk_thn_exit|apply qk_in_exit|apply qk_round_ret|apply qk_round_exit)|((with_reducible apply ws);exact rfl;exact rfl)|((with_reducible apply wl_yes);exact rfl;exact rfl;exact rfl)|((with_reducible apply wl_no);exact rfl;exact rfl;exact rfl;exact rfl)|((with_reducible apply wl_noU);exact rfl;exact rfl;exact rfl)
      refine wl_loadB rfl to_u32s rfl hb6 rfl ?_
      repeat first|(with_reducible first|apply wc_seq|apply wc_region|apply wl_nil|apply qk_thn|apply wc_block|apply wc_skip|apply wc_ret|apply wc_exit|apply qk_thn_ret|apply qk_in_ret|apply qk_in|apply qk_thn_exit|apply qk_in_exit|apply qk_round_ret|apply qk_round_exit)|((with_reducible apply ws);exact rfl;exact rfl)|((with_reducible apply wl_yes);exact rfl;exact rfl;exact rfl)|((with_reducible apply wl_no);exact rfl;exact rfl;exact rfl;exact rfl)|((with_reducible apply wl_noU);exact rfl;exact rfl;exact rfl)
      refine wl_app1 (v := .int .u32 (k : Int)) (cs := [.int .u32 (k : Int)]) (dv := dv) (xs := zs.map encU) (n := zs.length) rt_u32 rfl rfl rfl rfl rfl rfl rfl rfl hrow6 (by omega) (by simp only [many]; omega) (fun d7 w7 hrow7 hg7 => ?_)
      have hb7 := hb6.kept hg7.grown (fun h => hno5 h.symm)
      have hit7 : w7.heap[w3.heap.size]? = some (.mapIter (some r) clock (seen.push en.born) clock) := (hg7.grown.block _ (by omega) (fun h => hne5 h.symm)).trans hit6
      obtain ⟨a7, c7, hd7⟩ := Row.shape hrow7
      refine wl_storeB rfl rfl to_u32s (by rw [hd7]; rfl) hb7 rfl (fun w8 hb8 hg8 hs8 => ?_)
      have hno7 : d7.ownBlock ≠ some w1.heap.size := by
        intro h
        obtain ⟨cur, hcur⟩ := row_block hrow7 h
        have h2 := hb7
        simp only [Box, hcur, Option.some.injEq, Obj.cells.injEq] at h2
        exact ne_u32s h2.2.1.symm
      have hrow8 := Row.kept hrow7 hg8 (.inr hno7)
      have hit8 : w8.heap[w3.heap.size]? = some (.mapIter (some r) clock (seen.push en.born) clock) := (hg8.block _ (by have := hg7.grown.size; omega) (fun h => hib (by simpa using h.symm))).trans hit7
      have hge := Row.ge hrow5
      have hc8 : Chg (fun j => w.heap.size ≤ j) w w8 := ((hc5.trans (hc6.wide (fun j hj => by have : j = w3.heap.size := hj; omega))).trans
        (⟨hg7.grown.os, hg7.grown.tape, hg7.grown.output, hg7.grown.size, fun j hj hn => hg7.grown.block j hj (fun h => hn (hge j h.symm))⟩ : Chg (fun j => w.heap.size ≤ j) w6 w7)).trans ((Chg.grown hg8).wide (fun j hj => by have : j = w1.heap.size := hj; omega))
      repeat first|(with_reducible first|apply wc_seq|apply wc_region|apply wl_nil|apply qk_thn|apply wc_block|apply wc_skip|apply wc_ret|apply wc_exit|apply qk_thn_ret|apply qk_in_ret|apply qk_in|apply qk_thn_exit|apply qk_in_exit|apply qk_round_ret|apply qk_round_exit)|((with_reducible apply ws);exact rfl;exact rfl)|((with_reducible apply wl_yes);exact rfl;exact rfl;exact rfl)|((with_reducible apply wl_no);exact rfl;exact rfl;exact rfl;exact rfl)|((with_reducible apply wl_noU);exact rfl;exact rfl;exact rfl)
      refine qk_round (zs ++ [(k : Int)], d7, seen.push en.born, clock) ⟨rfl, rfl, rfl, rfl, trivial⟩ ⟨hb8, ?_, hit8, Nat.le_refl _, ?_, hc8⟩ ?_
      · simpa using hrow8
      · refine List.Perm.trans ?_ hperm5
        simp only [List.map_append, List.map_cons, List.map_nil, List.append_assoc, List.cons_append, List.nil_append]
        refine List.Perm.append_left _ ?_
        have := (hpush.map (·.key)).symm
        simpa [hek, encU] using this
      · have h2 := hpush.length_eq
        simp only [Array.length_toList, List.length_cons] at h2
        show (leftOf es (seen.push en.born)).size < (leftOf es seen).size
        omega
theorem teachOk (tlen : Nat) (ver : Int) : TeachOk Try.prog 5 (kt tlen 93 ver) := by
  intro _ kvs b off v ys d w B xs hs hb hc hr ho hB hl
  refine enter (vs := [.pointer (some ⟨b, off, none⟩), d]) Try.func93 rfl Try.ntmps93 rfl ?_
  obtain ⟨da, dc, hd⟩ := ho.shape
  repeat first|(with_reducible first|apply wc_seq|apply wc_region|apply wl_nil|apply qk_thn|apply wc_block|apply wc_skip|apply wc_ret|apply wc_exit|apply qk_thn_ret|apply qk_in_ret|apply qk_in|apply qk_thn_exit|apply qk_in_exit|apply qk_round_ret|apply qk_round_exit)|((with_reducible apply ws);exact rfl;exact rfl)|((with_reducible apply wl_yes);exact rfl;exact rfl;exact rfl)|((with_reducible apply wl_no);exact rfl;exact rfl;exact rfl;exact rfl)|((with_reducible apply wl_noU);exact rfl;exact rfl;exact rfl)
  refine wl_box1 (cs := [d]) rfl (by rw [hd]; rfl) rfl (fun w1 hb1 hg1 hs1 => ?_)
  have hw1 : Below w.heap.size w w1 := below_of hg1 (Nat.le_refl _) (by simp)
  have hc1 : w1.cell? ⟨b, off, none⟩ = some v := by rw [← hc]; simp only [World.cell?, hw1.block b (by omega)]
  have hr1 : Rep (Lo B) w1 (.mp kvs) [v] := Rep.below hr (hw1.mono hB) (Nat.le_refl _)
  have ho1 := Own.under ho hw1
  repeat first|(with_reducible first|apply wc_seq|apply wc_region|apply wl_nil|apply qk_thn|apply wc_block|apply wc_skip|apply wc_ret|apply wc_exit|apply qk_thn_ret|apply qk_in_ret|apply qk_in|apply qk_thn_exit|apply qk_in_exit|apply qk_round_ret|apply qk_round_exit)|((with_reducible apply ws);exact rfl;exact rfl)|((with_reducible apply wl_yes);exact rfl;exact rfl;exact rfl)|((with_reducible apply wl_no);exact rfl;exact rfl;exact rfl;exact rfl)|((with_reducible apply wl_noU);exact rfl;exact rfl;exact rfl)
  refine wl_makeFunc (caps := [.tmp 3]) rfl rfl ?_
  refine wl_call rfl (by kernel_rfl) rfl ((fn_each w1 w.heap.size B b off kvs v d xs ys _ hs hb hc1 hr1 hb1 hB ho1 (by omega) (fun e => by have := ho.lt _ e; omega) hl).mono ?_)
  rintro en w2 ⟨rfl, d2, hb2, ho2, hG2⟩
  refine ⟨_, rfl, ?_⟩
  repeat first|(with_reducible first|apply wc_seq|apply wc_region|apply wl_nil|apply qk_thn|apply wc_block|apply wc_skip|apply wc_ret|apply wc_exit|apply qk_thn_ret|apply qk_in_ret|apply qk_in|apply qk_thn_exit|apply qk_in_exit|apply qk_round_ret|apply qk_round_exit)|((with_reducible apply ws);exact rfl;exact rfl)|((with_reducible apply wl_yes);exact rfl;exact rfl;exact rfl)|((with_reducible apply wl_no);exact rfl;exact rfl;exact rfl;exact rfl)|((with_reducible apply wl_noU);exact rfl;exact rfl;exact rfl)
  refine wl_loadB rfl to_bytes rfl hb2 rfl ?_
  repeat first|(with_reducible first|apply wc_seq|apply wc_region|apply wl_nil|apply qk_thn|apply wc_block|apply wc_skip|apply wc_ret|apply wc_exit|apply qk_thn_ret|apply qk_in_ret|apply qk_in|apply qk_thn_exit|apply qk_in_exit|apply qk_round_ret|apply qk_round_exit)|((with_reducible apply ws);exact rfl;exact rfl)|((with_reducible apply wl_yes);exact rfl;exact rfl;exact rfl)|((with_reducible apply wl_no);exact rfl;exact rfl;exact rfl;exact rfl)|((with_reducible apply wl_noU);exact rfl;exact rfl;exact rfl)
  refine qk_ret1 rfl rfl ⟨d2, rfl, ho2, ⟨⟨hG2.chg.os.trans hw1.os, hG2.chg.tape.trans hw1.tape, hG2.chg.output.trans hw1.output, by have := hG2.chg.size; omega, fun k hk hn => ?_⟩, ?_⟩⟩
  · rw [hG2.chg.block k (by omega) (fun h => by
      rcases h with h | h
      · omega
      · exact hn h.symm)]
    exact hw1.block k hk
  · rcases hG2.fresh with h | h
    · exact .inl h
    · exact .inr (fun q hq => by have := h q hq; omega)
end Go.Proofs.Ytmihblfjhoblmaa.Rdk

/- A whole function that appends. Over any program. -/
namespace Go.Proofs.Ytmihblfjhoblmaa
open Go Go.RowKit

def tmpOf (r : Array ResultVar) : Option Nat := match r with
  | ⟨[.tmp u]⟩ => some u
  | _ => none
theorem tmpOf_out {r : Array ResultVar} {t : Nat} (h : tmpOf r = some t) : r = #[.tmp t] := by
  unfold tmpOf at h
  split at h
  · cases h; rfl
  · cases h
def appRun (P : Program) (K : Kt) (u8 f : Nat) (sh : List Ck) : Option (Option Sy × List Out × Bool) := match P.funcs[f]? with
  | some fn => (match fn.body, tmpOf fn.results with
    | some c, some r => bif isFn P f && Nat.ble 2 fn.ntmps then (match runS P K fn.ntmps u8 4000 [sh] [] ([(0, .at_ 0 0)], [1]) c with
      | some x => some (evS x.1 (.tmp r), x.2.1, x.2.2)
      | none => none) else none
    | _, _ => none)
  | none => none
theorem app_ok {P : Program} {K : Kt} {u8 f : Nat} {sh : List Ck} {os : List Out} (hT : TlenOk P K) (hK : FnsOk P u8 K) (hE : TeachOk P u8 K) (h : appRun P K u8 f sh = some (some .dst, os, true)) {B b : Nat} {w : World} {cs : List Value} {ds : List D} {d : Value} {xs ys : List UInt8}
    (hit : ItOk B w ⟨b, 0, 0, cs, ds⟩) (hsh : shDs ds = sh) (hver : cs[0]? = some K.ver) (ho : Own w B u8 d xs) (hB : B ≤ w.heap.size) (hs : semL [ds] os = some ys) (hl : xs.length + ys.length ≤ lim) :
    isFn P f = true ∧ Calls P f #[.pointer (some ⟨b, 0, none⟩), d] w fun e w' => ∃ d', e = .returned d' ∧ Own w' B u8 d' (xs ++ ys) ∧ Grew w w' d d' := by
  unfold appRun at h
  split at h
  · rename_i fn hfn
    split at h
    · rename_i c r hbody hres
      cases hc : isFn P f && Nat.ble 2 fn.ntmps with
      | false => rw [hc] at h; cases h
      | true =>
        rw [hc] at h
        simp only [cond_true] at h
        rw [Bool.and_eq_true] at hc
        have hn : 2 ≤ fn.ntmps := Nat.le_of_ble_eq_true hc.2
        split at h
        · rename_i x hx
          simp only [Option.some.injEq, Prod.mk.injEq] at h
          obtain ⟨h1, h2, h3⟩ := h
          refine ⟨hc.1, calls_of_wp hfn hbody ?_⟩
          have hrun := runS_ok (B := B) hT hK hE _ _ _ _ _ x.1 x.2.1 x.2.2 (by rw [hx])
          refine hrun [⟨b, 0, 0, cs, ds⟩] _ w d xs ys _ (by simp) ⟨?_, ?_, ?_, ?_⟩ (fun q hq => by cases hq) ho hB (by rw [h2]; simpa using hs) hl ?_
          · refine ⟨by simp; omega, rfl, fun t s e => ?_, fun t e => ?_⟩
            · simp only [lkS] at e
              cases hb : Nat.beq 0 t with
              | false => rw [hb] at e; cases e
              | true =>
                rw [hb] at e
                have := beq_out hb; subst this
                simp only [cond_true, Option.some.injEq] at e
                subst e
                simp only [den, gt, Array.getD_eq_getD_getElem?]
                rw [Array.getElem?_append_left (by simp)]; rfl
            · have : 1 = t := by simpa [memN] using e
              subst this
              simp only [gt, Array.getD_eq_getD_getElem?]
              rw [Array.getElem?_append_left (by simp)]; rfl
          · intro it hi; simp at hi; subst hi; exact hit
          · refine ⟨rfl, fun k x hx => ?_⟩
            cases k with
            | zero => simp at hx; subst hx; simp [hsh]
            | succ k => simp at hx
          · intro it hi; simp at hi; subst hi; exact hver
          · intro a' w' d' H' ho' hg'
            rw [h3]
            have hd := (H'.kn.eval h1).1 rfl
            refine ⟨H'.kn.defers, d', ?_, d', rfl, ho', hg'⟩
            rw [results_tmp (tmpOf_out hres)]
            rw [eval_tmp] at hd
            simp only [gt] at hd
            rw [hd]
        · cases h
    · cases h
  · cases h
end Go.Proofs.Ytmihblfjhoblmaa

/- What is read of what is written: a whole struct. No program in sight. -/
namespace Go.Proofs.Ytmihblfjhoblmaa
open Go Go.RowKit

/-- What a part of the acts reads of a part of the octets. -/
def Reads (_ver : Int) (_tg _flex : Bool) (sh : List Ck) (H : List D → Prop) (a r : List Ra) (off : Nat) (ys : List UInt8) : Prop :=
  ∀ (pre mid post : List D) (s : List UInt8), shDs mid = sh → unit pre → unit mid → D.widths pre = off →
    ∃ new new', rdAs a (pre ++ mid ++ post) (ys ++ s) = rdAs r (pre ++ new ++ post) s ∧ shDs new = sh ∧ unit new ∧ H new' ∧ shDs new' = sh ∧ pos new' ∧ Imp new new'
theorem Reads.weak {ver : Int} {tg flex : Bool} {sh : List Ck} {H H' : List D → Prop} {a r : List Ra} {off : Nat} {ys : List UInt8} (h : Reads ver tg flex sh H a r off ys) (k : ∀ ds, H ds → H' ds) : Reads ver tg flex sh H' a r off ys := by
  intro pre mid post s hsh hpre hmid hw
  obtain ⟨n1, n1', e1, e2, e3, e4, e5⟩ := h pre mid post s hsh hpre hmid hw
  exact ⟨n1, n1', e1, e2, e3, k _ e4, e5⟩
end Go.Proofs.Ytmihblfjhoblmaa

/- Reading a whole message: checked by reckoning, told in the reference's words. Over any program. -/
namespace Go.Proofs.Ytmihblfjhoblmaa
open Go Go.RowKit

def isVer (ver : Int) (v : Value) : Bool := match v with
  | .int .i16 n => decide (n = ver) && decide (IntKind.i16.wrap n = n)
  | _ => false
def headVer (ver : Int) : List Value → Bool
  | v :: _ => isVer ver v
  | [] => false
/-- Does this function read this message at this version? -/
def readOk (P : Program) (K : Kr) (f : Nat) (ver : Int) (tg flex : Bool) (fs : List Fld) (cs : List Value) : Bool := match readF P K f cs with
  | some x => headVer ver x.1 && decide (shDs (litsD x.1) = .int .i16 :: shP tg fs) && endsA (mP ver tg flex 1 fs x.2)
  | none => false
where endsA : Option (List Ra) → Bool
  | some [] => true
  | _ => false
end Go.Proofs.Ytmihblfjhoblmaa

/- The fitted tree can be written, and what is written of it is what is written of the tree. No program in sight. -/
namespace Go.Proofs.Ytmihblfjhoblmaa
open Go Go.RowKit

mutual
/-- What the package's code asks of a table at a version. -/
def tabF (ver : Int) : Fld → Bool
  | .mk kind _ _ nul _ _ of sub => (!decide (kind = 8) || !decide (0 ≤ nul) || decide (nul ≤ ver)) &&
    (if kind = 11 then (if of = 10 then tabFs ver sub else !decide (of = 11) && !decide (of = 7)) else if kind = 10 then tabFs ver sub else true)
def tabFs (ver : Int) : List Fld → Bool
  | [] => true
  | f :: fs => decide (f.tag < 0) && (!f.has ver || tabF ver f) && tabFs ver fs
end
theorem att_fitL (ver : Int) : ∀ (fs : List Fld) (i0 : Nat) (t t' : Tree) (k : Nat), (∀ j, j < fs.length → att t' (k + j) = (fitL ver fs i0 t).getD j Tree.none) → ∀ j (h : j < fs.length), att t' (k + j) = fitF ver fs[j] (att t (i0 + j)) := by
  intro fs i0 t t' k h j hj
  rw [h j hj, List.getD_eq_getElem?_getD, List.getElem?_eq_getElem (by rw [fitL_length]; exact hj)]
  simp only [Option.getD_some]
  exact fitL_get ver fs i0 t j hj
theorem att_fitP (ver : Int) (fs : List Fld) (t : Tree) (j : Nat) (h : j < fs.length) : att (fitP ver fs t) j = fitF ver fs[j] (att t j) := by
  have := att_fitL ver fs 0 t (fitP ver fs t) 0 (fun j hj => by simp [fitP, att, Tree.l]) j h
  simpa using this
theorem withNull_att (b : Bool) (t : Tree) (i : Nat) : att (t.withNull b) i = att t i := by cases t; rfl
theorem withNull_u (b : Bool) (t : Tree) : (t.withNull b).u = t.u := by cases t; rfl
theorem withNull_nul (b : Bool) (t : Tree) : (t.withNull b).nul = b := by cases t; rfl
theorem wFs_congr (ver : Int) (flex : Bool) : ∀ (fs : List Fld) (i k : Nat) (t t' : Tree), (∀ j (h : j < fs.length), fs[j].has ver = true → wField ver flex fs[j] (att t' (k + j)) = wField ver flex fs[j] (att t (i + j))) → wFs ver flex fs k t' = wFs ver flex fs i t
  | [], _, _, _, _, _ => by simp [wFs]
  | f :: fs, i, k, t, t', h => by
    simp only [wFs]
    have h0 := h 0 (by simp)
    simp only [List.getElem_cons_zero, Nat.add_zero] at h0
    have e : (if f.tag < 0 ∧ f.has ver = true then wField ver flex f (att t' k) else []) = (if f.tag < 0 ∧ f.has ver = true then wField ver flex f (att t i) else []) := by
      split
      · rename_i hh; rw [h0 hh.2]
      · rfl
    rw [e]
    congr 1
    exact wFs_congr ver flex fs (i + 1) (k + 1) t t' (fun j hj hh => by
      have := h (j + 1) (by simpa using hj)
      simp only [List.getElem_cons_succ] at this
      rw [show k + 1 + j = k + (j + 1) by omega, show i + 1 + j = i + (j + 1) by omega]
      exact this hh)
theorem known_zero {fs : List Fld} (h : ∀ f ∈ fs, f.tag < 0) : known fs = 0 := known_none fs 0 h
theorem tab_tags {ver : Int} : ∀ {fs : List Fld}, tabFs ver fs = true → ∀ f ∈ fs, f.tag < 0
  | [], _, f, hf => by cases hf
  | g :: fs, h, f, hf => by
    simp only [tabFs, Bool.and_eq_true, decide_eq_true_eq] at h
    rcases List.mem_cons.1 hf with rfl | hm
    · exact h.1.1
    · exact tab_tags h.2 f hm
theorem putTag_end (k : Nat) (v : List UInt8) : ∀ (u : List (Nat × List UInt8)), (∀ kv ∈ u, kv.1 < k) → putTag k v u = u ++ [(k, v)]
  | [], _ => rfl
  | x :: u, h => by
    have := h x (by simp)
    simp only [putTag, if_pos this, putTag_end k v u (fun y hy => h y (by simp [hy])), List.cons_append]
theorem fold_rising : ∀ (u acc : List (Nat × List UInt8)), Rising (acc ++ u) → u.foldl (fun out kv => if kv.1 < 0 then out else putTag kv.1 kv.2 out) acc = acc ++ u
  | [], acc, _ => by simp
  | x :: u, acc, h => by
    simp only [List.foldl_cons, Nat.not_lt_zero, if_false]
    rw [putTag_end x.1 x.2 acc (fun kv hkv => (List.pairwise_append.1 h).2.2 kv hkv x (by simp))]
    have ih := fold_rising u (acc ++ [x]) (by simpa [List.append_assoc] using h)
    simp only [Nat.not_lt_zero, if_false] at ih
    rw [ih]; simp
theorem unknown_self {fs : List Fld} {u : List (Nat × List UInt8)} (hk : known fs = 0) (hr : Rising u) (hl : u.length ≤ Most) : unknown fs u = u := by
  unfold unknown
  rw [List.take_of_length_le hl, hk]
  have := fold_rising u [] (by simpa using hr)
  simpa using this
theorem putTag_len (k : Nat) (v : List UInt8) : ∀ (u : List (Nat × List UInt8)), (putTag k v u).length ≤ u.length + 1
  | [] => by simp [putTag]
  | x :: u => by
    simp only [putTag]
    have := putTag_len k v u
    split
    · simp; omega
    · split <;> simp
theorem unknownLen (fs : List Fld) (u : List (Nat × List UInt8)) : (unknown fs u).length ≤ Most := by
  unfold unknown
  have : ∀ (l out : List (Nat × List UInt8)), (l.foldl (fun out kv => if kv.1 < known fs then out else putTag kv.1 kv.2 out) out).length ≤ out.length + l.length := by
    intro l
    induction l with
    | nil => intro out; simp
    | cons x l ih =>
      intro out
      simp only [List.foldl_cons, List.length_cons]
      split
      · have := ih out; omega
      · have := ih (putTag x.1 x.2 out); have := putTag_len x.1 x.2 out; omega
  have h := this (u.take Most) []
  have : (u.take Most).length ≤ Most := by simp; omega
  simp only [List.length_nil] at h
  omega
theorem whole_whole (s : List UInt8) : whole (whole s) = whole s := by simp [whole, List.take_take]
theorem whole_len (s : List UInt8) : (whole s).length ≤ Most := by simp [whole]; omega
theorem others_rising (fs : List Fld) (u : List (Nat × List UInt8)) : Rising (others fs u) := by
  unfold others Rising
  exact List.pairwise_map.2 (unknown_rising fs u)
theorem others_self {fs : List Fld} (hk : known fs = 0) (u : List (Nat × List UInt8)) : unknown fs (others fs u) = others fs u := unknown_self hk (others_rising fs u) (by simp [others, unknownLen])
theorem allTags_fit {ver : Int} {flex : Bool} {fs : List Fld} (hk : known fs = 0) (t t' : Tree) (h : t'.u = others fs t.u) : allTags ver flex fs t' = allTags ver flex fs t := by
  unfold allTags
  rw [hk, h, others_self hk]
  simp only [List.range_zero, List.flatMap_nil, List.nil_append, others, List.map_map]
  refine List.map_congr_left (fun kv _ => ?_)
  simp [whole_whole]
theorem fitVal_w (kind : Int) (flex : Bool) (p q : Tree → Tree) (wp : Tree → List UInt8) (null : Bool) (t : Tree) (h10 : kind = 10 → wp ((p t).withNull null) = wp t) : wVal kind flex null wp (fitVal kind null p t) = wVal kind flex null wp t := by
  unfold fitVal
  by_cases h8 : kind = 8 ∨ kind = 9
  · rw [if_pos h8]
    rcases h8 with rfl | rfl <;> simp [wVal, Tree.s, whole_whole]
  · rw [if_neg h8]
    by_cases h : kind = 10
    · rw [if_pos h]; subst h; simp only [wVal]; simpa using h10 rfl
    · rw [if_neg h]
      have h8' : kind ≠ 8 := fun e => h8 (.inl e)
      have h9' : kind ≠ 9 := fun e => h8 (.inr e)
      simp [wVal, h8', h9', h, Tree.n, Tree.s]
theorem fitVal_nul (kind : Int) (null : Bool) (p : Tree → Tree) (t : Tree) (h : kind = 8 ∨ kind = 9 ∨ kind = 10) : (fitVal kind null p t).nul = null := by
  unfold fitVal
  rcases h with rfl | rfl | rfl
  · simp [Tree.nul]
  · simp [Tree.nul]
  · simp [withNull_nul]
theorem fld_null (kind fr upto nul tag df of : Int) (sub : List Fld) (ver : Int) (t : Tree) : (Fld.mk kind fr upto nul tag df of sub).null ver t = (t.nul && decide (0 ≤ nul) && decide (nul ≤ ver)) := rfl
theorem mk_nul (n : Int) (s : List UInt8) (b : Bool) (l : List Tree) (u : List (Nat × List UInt8)) : (Tree.mk n s b l u).nul = b := rfl
theorem mk_l (n : Int) (s : List UInt8) (b : Bool) (l : List Tree) (u : List (Nat × List UInt8)) : (Tree.mk n s b l u).l = l := rfl
theorem wPart_fit_of {ver : Int} {flex : Bool} {fs : List Fld} (ht : ∀ f ∈ fs, f.tag < 0) (h : ∀ j (hj : j < fs.length), fs[j].has ver = true → ∀ x, wField ver flex fs[j] (fitF ver fs[j] x) = wField ver flex fs[j] x) (t : Tree) (b : Bool) :
    wPart ver flex fs ((fitP ver fs t).withNull b) = wPart ver flex fs t := by
  unfold wPart
  have e1 : wFs ver flex fs 0 ((fitP ver fs t).withNull b) = wFs ver flex fs 0 t := wFs_congr ver flex fs 0 0 t _ (fun j hj hh => by
    rw [withNull_att]
    simp only [Nat.zero_add]
    rw [att_fitP ver fs t j hj]
    exact h j hj hh _)
  rw [e1, allTags_fit (known_zero ht) t _ (by rw [withNull_u]; rfl)]
mutual
theorem wField_fit (ver : Int) (flex : Bool) : ∀ (f : Fld), f.tag < 0 → tabF ver f = true → ∀ x, wField ver flex f (fitF ver f x) = wField ver flex f x
  | .mk kind fr upto nul tag df of sub, htag, htab, x => by
    have htag' : ¬ (0 ≤ tag) := by have : tag < 0 := htag; omega
    simp only [tabF, Bool.and_eq_true] at htab
    obtain ⟨h8, htab⟩ := htab
    rw [fitF_eq]
    rw [fld_null]
    simp only [Fld.kind, Fld.tag, Fld.of, Fld.sub]
    by_cases h11 : kind = 11
    · simp only [h11, if_true] at htab ⊢
      rw [wField_mk ver flex 11 fr upto nul tag df of sub _ _ rfl, wField_mk ver flex 11 fr upto nul tag df of sub x _ rfl]
      simp only [htag', decide_false, Bool.false_and, Bool.or_false, mk_nul, mk_l, if_true]
      have en : (x.nul && decide (0 ≤ nul) && decide (nul ≤ ver) && decide (0 ≤ nul) && decide (nul ≤ ver)) = (x.nul && decide (0 ≤ nul) && decide (nul ≤ ver)) := by
        cases x.nul <;> cases decide (0 ≤ nul) <;> cases decide (nul ≤ ver) <;> rfl
      rw [en]
      have el : things ((things x.l).map (fitVal of false (fitP ver sub))) = (things x.l).map (fitVal of false (fitP ver sub)) := things_of (by simp [things]; omega)
      rw [el]
      generalize (x.nul && decide (0 ≤ nul) && decide (nul ≤ ver)) = nb
      cases nb with
      | true => rfl
      | false =>
        simp only [Bool.false_eq_true, if_false, List.length_map, List.flatMap_map]
        congr 1
        refine congrArg (fun g => (things x.l).flatMap g) (funext fun y => ?_)
        refine fitVal_w of flex _ (fitP ver sub) _ false y (fun h10 => ?_)
        rw [if_pos h10] at htab
        exact wFsub_fit ver flex sub htab y false
    · simp only [h11, if_false] at htab ⊢
      rw [wField_mk ver flex kind fr upto nul tag df of sub _ _ rfl, wField_mk ver flex kind fr upto nul tag df of sub x _ rfl]
      simp only [h11, if_false]
      by_cases h10 : kind = 10
      · simp only [h10, if_true] at htab
        subst h10
        rw [fitVal_nul 10 _ _ _ (.inr (.inr rfl))]
        have en : (x.nul && decide (0 ≤ nul) && decide (nul ≤ ver) && decide (0 ≤ nul) && decide (nul ≤ ver)) = (x.nul && decide (0 ≤ nul) && decide (nul ≤ ver)) := by
          cases x.nul <;> cases decide (0 ≤ nul) <;> cases decide (nul ≤ ver) <;> rfl
        rw [en]
        have ew : wPart ver flex sub (fitVal 10 (x.nul && decide (0 ≤ nul) && decide (nul ≤ ver)) (fitP ver sub) x) = wPart ver flex sub x := by
          simp only [fitVal]
          exact wFsub_fit ver flex sub htab x _
        simp only [wVal, ew]
        rfl
      · simp only [h10, false_and, if_false]
        by_cases h89 : kind = 8 ∨ kind = 9
        · rw [fitVal_nul kind _ _ _ (by rcases h89 with h | h; exact .inl h; exact .inr (.inl h))]
          have en : (x.nul && decide (0 ≤ nul) && decide (nul ≤ ver) && decide (0 ≤ nul) && decide (nul ≤ ver)) = (x.nul && decide (0 ≤ nul) && decide (nul ≤ ver)) := by
            cases x.nul <;> cases decide (0 ≤ nul) <;> cases decide (nul ≤ ver) <;> rfl
          rw [en]
          exact fitVal_w kind flex _ (fitP ver sub) _ _ x (fun h => absurd h h10)
        · have a8 : kind ≠ 8 := fun e => h89 (.inl e)
          have a9 : kind ≠ 9 := fun e => h89 (.inr e)
          simp [fitVal, wVal, a8, a9, h10, Tree.n, Tree.s]
theorem wFsub_fit (ver : Int) (flex : Bool) : ∀ (fs : List Fld), tabFs ver fs = true → ∀ (t : Tree) (b : Bool), wPart ver flex fs ((fitP ver fs t).withNull b) = wPart ver flex fs t
  | fs, h, t, b => wPart_fit_of (tab_tags h) (wEach_fit ver flex fs h) t b
theorem wEach_fit (ver : Int) (flex : Bool) : ∀ (fs : List Fld), tabFs ver fs = true → ∀ j (hj : j < fs.length), fs[j].has ver = true → ∀ x, wField ver flex fs[j] (fitF ver fs[j] x) = wField ver flex fs[j] x
  | [], _, j, hj, _ => by cases hj
  | f :: fs, h, j, hj, hh => by
    simp only [tabFs, Bool.and_eq_true, Bool.or_eq_true, Bool.not_eq_true', decide_eq_true_eq] at h
    cases j with
    | zero =>
      intro x
      simp only [List.getElem_cons_zero] at hh ⊢
      refine wField_fit ver flex f h.1.1 ?_ x
      rcases h.1.2 with h1 | h1
      · rw [hh] at h1; cases h1
      · exact h1
    | succ j => exact wEach_fit ver flex fs h.2 j (by simpa using hj) hh
end
end Go.Proofs.Ytmihblfjhoblmaa

/- What the walks ask of trees and fields, as plain facts. No Go in sight. -/
namespace Go.Proofs.Ytmihblfjhoblmaa

mutual
/-- Lengths and tags within what a machine holds. -/
def Tree.ok : Tree → Prop
  | .mk n s _ l u => s.length ≤ 9223372036854775807 ∧ (∀ kv ∈ u, kv.1 < 4294967296) ∧ Tree.oks l ∧ (-9223372036854775808 ≤ n ∧ n ≤ 9223372036854775807)
def Tree.oks : List Tree → Prop
  | [] => True
  | t :: l => t.ok ∧ Tree.oks l
end
mutual
def Fld.okb : Fld → Bool
  | .mk _ _ _ _ tag _ of sub => decide (tag < 2147483647) && decide (of ≠ 11) && Nat.ble sub.length 1000 && Fld.oksb sub
def Fld.oksb : List Fld → Bool
  | [] => true
  | f :: l => f.okb && Fld.oksb l
end
theorem Tree.oks_mem : ∀ {l : List Tree}, Tree.oks l → ∀ t ∈ l, t.ok
  | [], _, t, h => by cases h
  | x :: l, h, t, ht => by
    simp only [Tree.oks] at h
    rcases List.mem_cons.1 ht with rfl | h1
    · exact h.1
    · exact Tree.oks_mem h.2 t h1
theorem Tree.ok_none : Tree.none.ok := by simp [Tree.none, Tree.ok, Tree.oks]
theorem Tree.ok.at {t : Tree} (h : t.ok) (i : Nat) : (att t i).ok := by
  cases t with
  | mk n s nul l u =>
    simp only [Tree.ok] at h
    unfold att
    by_cases hi : i < l.length
    · have : (Tree.mk n s nul l u).l.getD i Tree.none = l[i] := by simp [Tree.l, hi]
      rw [this]; exact Tree.oks_mem h.2.2.1 _ (List.getElem_mem _)
    · have : (Tree.mk n s nul l u).l.getD i Tree.none = Tree.none := by simp [Tree.l, List.getD, List.getElem?_eq_none (by omega : l.length ≤ i)]
      rw [this]; exact Tree.ok_none
theorem Tree.ok.s {t : Tree} (h : t.ok) : t.s.length ≤ 9223372036854775807 := by cases t; simp only [Tree.ok] at h; exact h.1
theorem Tree.ok.u {t : Tree} (h : t.ok) : ∀ kv ∈ t.u, kv.1 < 4294967296 := by cases t; simp only [Tree.ok] at h; exact h.2.1
theorem Tree.ok.l {t : Tree} (h : t.ok) : ∀ x ∈ t.l, x.ok := by cases t; simp only [Tree.ok] at h; exact Tree.oks_mem h.2.2.1
theorem Tree.ok.n {t : Tree} (h : t.ok) : -9223372036854775808 ≤ t.n ∧ t.n ≤ 9223372036854775807 := by cases t; simp only [Tree.ok] at h; exact h.2.2.2
mutual
/-- Lists that are not long. -/
def Tree.small : Tree → Prop
  | .mk _ _ _ l u => (l.length ≤ 1000000000 ∧ u.length ≤ 1000000000) ∧ Tree.smalls l
def Tree.smalls : List Tree → Prop
  | [] => True
  | t :: l => t.small ∧ Tree.smalls l
end
theorem Tree.smalls_mem : ∀ {l : List Tree}, Tree.smalls l → ∀ t ∈ l, t.small
  | [], _, t, h => by cases h
  | x :: l, h, t, ht => by
    simp only [Tree.smalls] at h
    rcases List.mem_cons.1 ht with rfl | h1
    · exact h.1
    · exact Tree.smalls_mem h.2 t h1
theorem Tree.small.lens {t : Tree} (h : t.small) : t.l.length ≤ 1000000000 ∧ t.u.length ≤ 1000000000 := by cases t; simp only [Tree.small] at h; exact h.1
theorem Tree.small.l {t : Tree} (h : t.small) : ∀ x ∈ t.l, x.small := by cases t; simp only [Tree.small] at h; exact Tree.smalls_mem h.2
theorem Fld.oksb_mem : ∀ {l : List Fld}, Fld.oksb l = true → ∀ f ∈ l, f.okb = true
  | [], _, t, h => by cases h
  | x :: l, h, t, ht => by
    simp only [Fld.oksb, Bool.and_eq_true] at h
    rcases List.mem_cons.1 ht with rfl | h1
    · exact h.1
    · exact Fld.oksb_mem h.2 t h1
theorem Fld.okb_tag {f : Fld} (h : f.okb = true) : f.tag < 2147483647 := by
  cases f; simp only [Fld.okb, Bool.and_eq_true, decide_eq_true_eq] at h; exact h.1.1.1
theorem Fld.okb_of {f : Fld} (h : f.okb = true) : f.of ≠ 11 := by
  cases f; simp only [Fld.okb, Bool.and_eq_true, decide_eq_true_eq] at h; exact h.1.1.2
theorem Fld.okb_sub {f : Fld} (h : f.okb = true) : Fld.oksb f.sub = true ∧ f.sub.length ≤ 1000 := by
  cases f; simp only [Fld.okb, Bool.and_eq_true, decide_eq_true_eq] at h; exact ⟨h.2, Nat.le_of_ble_eq_true h.1.2⟩
/-- Fields that the walks speak of. -/
def fsok (fs : List Fld) : Bool := Fld.oksb fs && Nat.ble fs.length 1000
theorem fsok.sub {f : Fld} (h : f.okb = true) : fsok f.sub = true := by
  have := Fld.okb_sub h
  simp only [fsok, Bool.and_eq_true]
  exact ⟨this.1, Nat.ble_eq_true_of_le this.2⟩
theorem fsok.mem {fs : List Fld} (h : fsok fs = true) : ∀ f ∈ fs, f.okb = true := by
  simp only [fsok, Bool.and_eq_true] at h; exact Fld.oksb_mem h.1
theorem fsok.len {fs : List Fld} (h : fsok fs = true) : fs.length ≤ 1000 := by
  simp only [fsok, Bool.and_eq_true] at h; exact Nat.le_of_ble_eq_true h.2
theorem fsok.tag {fs : List Fld} (h : fsok fs = true) : ∀ f ∈ fs, f.tag < 2147483647 := fun f hf => Fld.okb_tag (fsok.mem h f hf)
end Go.Proofs.Ytmihblfjhoblmaa

/- The fitted tree can be written. No program in sight. -/
namespace Go.Proofs.Ytmihblfjhoblmaa
open Go Go.RowKit

theorem fitU_fit {fs : List Fld} (hk : known fs = 0) {t t' : Tree} (ho : ∀ kv ∈ t.u, kv.1 < 4294967296) (h : t'.u = others fs t.u) : FitU fs t' := by
  have sub : ∀ kv ∈ unknown fs t.u, ∃ x ∈ t.u, x.1 = kv.1 := by
    unfold unknown
    have put : ∀ (k : Nat) (v : List UInt8) (u : List (Nat × List UInt8)), ∀ kv ∈ putTag k v u, kv.1 = k ∨ kv ∈ u := by
      intro k v u
      induction u with
      | nil => intro kv h; simp [putTag] at h; subst h; exact .inl rfl
      | cons x u ih =>
        intro kv h
        simp only [putTag] at h
        split at h
        · rcases List.mem_cons.1 h with rfl | h
          · exact .inr (by simp)
          · rcases ih kv h with h | h
            · exact .inl h
            · exact .inr (by simp [h])
        · split at h
          · exact .inr h
          · rcases List.mem_cons.1 h with rfl | h
            · exact .inl rfl
            · exact .inr h
    have : ∀ (l out : List (Nat × List UInt8)), ∀ kv ∈ l.foldl (fun out kv => if kv.1 < known fs then out else putTag kv.1 kv.2 out) out, (∃ x ∈ l, x.1 = kv.1) ∨ kv ∈ out := by
      intro l
      induction l with
      | nil => intro out kv h; exact .inr h
      | cons x l ih =>
        intro out kv h
        simp only [List.foldl_cons] at h
        rcases ih _ kv h with ⟨y, hy, e⟩ | h
        · exact .inl ⟨y, by simp [hy], e⟩
        · split at h
          · exact .inr h
          · rcases put _ _ _ kv h with h | h
            · exact .inl ⟨x, by simp, h.symm⟩
            · exact .inr h
    intro kv hkv
    rcases this _ _ kv hkv with ⟨x, hx, e⟩ | h
    · exact ⟨x, List.mem_of_mem_take hx, e⟩
    · cases h
  refine ⟨by rw [h, others_self hk], ?_, by rw [h]; simp [others, unknownLen]⟩
  intro kv hkv
  rw [h] at hkv
  simp only [others, List.mem_map] at hkv
  obtain ⟨x, hx, rfl⟩ := hkv
  obtain ⟨y, hy, e⟩ := sub x hx
  have := ho y hy
  exact ⟨by show x.1 < _; omega, whole_len _⟩
theorem fitV_fit (kind : Int) (null : Bool) (p : Tree → Tree) (t : Tree) (h10 : kind ≠ 10) : FitV kind (fitVal kind null p t) := by
  intro h
  unfold fitVal
  rw [if_pos h]
  exact whole_len _
mutual
theorem fitF_ok (ver : Int) : ∀ (f : Fld), f.tag < 0 → tabF ver f = true → ∀ x : Tree, x.ok → FitF ver f (fitF ver f x)
  | .mk kind fr upto nul tag df of sub, htag, htab, x, hx => by
    have htag' : ¬ (0 ≤ tag) := by have : tag < 0 := htag; omega
    simp only [tabF, Bool.and_eq_true] at htab
    obtain ⟨h8, htab⟩ := htab
    have h8' : kind = 8 → 0 ≤ nul → nul ≤ ver := by
      intro e1 e2
      simp [e1, e2] at h8
      exact h8
    have hnn : ∀ b : Bool, b = (x.nul && decide (0 ≤ nul) && decide (nul ≤ ver)) → b = true → nul ≤ ver := by
      intro b e1 e2
      rw [e1] at e2
      simp only [Bool.and_eq_true, decide_eq_true_eq] at e2
      exact e2.2
    rw [fitF_eq]
    rw [fld_null]
    simp only [Fld.kind, Fld.tag, Fld.of, Fld.sub, FitF]
    by_cases h11 : kind = 11
    · simp only [h11, if_true] at htab ⊢
      simp only [htag', decide_false, Bool.false_and, Bool.or_false, mk_nul, mk_l]
      refine ⟨fun _ e => hnn _ rfl e, fun e => by omega, by simp [things]; omega, fun h10 => ?_, fun h10 => ?_⟩
      · rw [if_pos h10] at htab
        intro y hy
        obtain ⟨z, hz, rfl⟩ := List.mem_map.1 hy
        have hzo := hx.l z (List.mem_of_mem_take hz)
        subst h10
        simp only [fitVal]
        exact ⟨fitPart_ok ver sub htab z hzo false, fitU_fit (known_zero (tab_tags htab)) hzo.u (by show ((fitP ver sub z).withNull false).u = _; rw [withNull_u]; rfl)⟩
      · rw [if_neg h10] at htab
        simp at htab
        refine ⟨htab, fun y hy => ?_⟩
        obtain ⟨z, hz, rfl⟩ := List.mem_map.1 hy
        exact fitV_fit of false _ z h10
    · simp only [h11, if_false] at htab ⊢
      by_cases h10 : kind = 10
      · simp only [h10, if_true] at htab ⊢
        refine ⟨fun _ e => ?_, fun e => by omega, ?_, ?_⟩
        · rw [fitVal_nul 10 _ _ _ (.inr (.inr rfl))] at e
          exact hnn _ rfl e
        · simp only [fitVal]
          exact fitPart_ok ver sub htab x hx _
        · exact fitU_fit (known_zero (tab_tags htab)) hx.u (by subst h10; show ((fitP ver sub x).withNull _).u = _; rw [withNull_u]; rfl)
      · simp only [h10, if_false]
        refine ⟨fun _ e => ?_, h8', fitV_fit kind _ _ x h10⟩
        by_cases h89 : kind = 8 ∨ kind = 9
        · rw [fitVal_nul kind _ _ _ (by rcases h89 with h | h; exact .inl h; exact .inr (.inl h))] at e
          exact hnn _ rfl e
        · unfold fitVal at e
          rw [if_neg h89, if_neg h10] at e
          cases e
theorem fitPart_ok (ver : Int) : ∀ (fs : List Fld), tabFs ver fs = true → ∀ (t : Tree), t.ok → ∀ b, FitFs ver fs 0 ((fitP ver fs t).withNull b)
  | fs, h, t, ht, b => fitFs_ok ver fs h 0 _ (fun j hj => ⟨att t j, ht.at j, by rw [withNull_att, Nat.zero_add, att_fitP ver fs t j hj]⟩)
theorem fitFs_ok (ver : Int) : ∀ (fs : List Fld), tabFs ver fs = true → ∀ (i : Nat) (t' : Tree), (∀ j (hj : j < fs.length), ∃ x : Tree, x.ok ∧ att t' (i + j) = fitF ver fs[j] x) → FitFs ver fs i t'
  | [], _, _, _, _ => by simp [FitFs]
  | f :: fs, h, i, t', hall => by
    simp only [tabFs, Bool.and_eq_true, Bool.or_eq_true, Bool.not_eq_true', decide_eq_true_eq] at h
    simp only [FitFs]
    refine ⟨h.1.1, fun hh => ?_, fitFs_ok ver fs h.2 (i + 1) t' (fun j hj => ?_)⟩
    · obtain ⟨x, hx, e⟩ := hall 0 (by simp)
      simp only [Nat.add_zero, List.getElem_cons_zero] at e
      rw [e]
      refine fitF_ok ver f h.1.1 ?_ x hx
      rcases h.1.2 with h1 | h1
      · rw [hh] at h1; cases h1
      · exact h1
    · obtain ⟨x, hx, e⟩ := hall (j + 1) (by simpa using hj)
      exact ⟨x, hx, by rw [show i + 1 + j = i + (j + 1) by omega, e]; simp⟩
end
/-- The fitted tree can be written; it is written as the tree is. -/
theorem fitt_ok {ver : Int} {fs : List Fld} (h : tabFs ver fs = true) {t : Tree} (ht : t.ok) (flex : Bool) : FitT ver fs ((fitP ver fs t).withNull false) ∧ wPart ver flex fs ((fitP ver fs t).withNull false) = wPart ver flex fs t :=
  ⟨⟨fitPart_ok ver fs h t ht false, fitU_fit (known_zero (tab_tags h)) ht.u (by rw [withNull_u]; rfl)⟩, wFsub_fit ver flex fs h t false⟩
end Go.Proofs.Ytmihblfjhoblmaa

/- How long what is written is at the most: so many octets for each value and letter of the tree. No Go in sight. -/
namespace Go.Proofs.Ytmihblfjhoblmaa

def tagsW (u : List (Nat × List UInt8)) : Nat := (u.map fun kv => kv.2.length + 1).sum
mutual
/-- All values and letters of a tree. -/
def Tree.wt : Tree → Nat
  | .mk _ s _ l u => 1 + s.length + tagsW u + Tree.wts l
def Tree.wts : List Tree → Nat
  | [] => 0
  | t :: l => t.wt + Tree.wts l
end
mutual
def Fld.cost : Fld → Nat
  | .mk _ _ _ _ _ _ _ sub => 60 + ((1 + known sub) * Fld.costs sub + 60)
def Fld.costs : List Fld → Nat
  | [] => 0
  | f :: l => f.cost + 30 + Fld.costs l
end
/-- What a part costs. -/
def partCost (fs : List Fld) : Nat := (1 + known fs) * Fld.costs fs + 60
theorem Tree.wt_pos (t : Tree) : 1 ≤ t.wt := by cases t; simp only [Tree.wt]; omega
theorem wts_mem : ∀ {l : List Tree} {t : Tree}, t ∈ l → t.wt ≤ Tree.wts l
  | x :: l, t, h => by
    simp only [Tree.wts]
    rcases List.mem_cons.1 h with rfl | h1
    · omega
    · have := wts_mem h1; omega
theorem wts_take : ∀ (l : List Tree) (n : Nat), Tree.wts (l.take n) ≤ Tree.wts l
  | [], n => by simp
  | x :: l, 0 => by simp [Tree.wts]
  | x :: l, n + 1 => by simp only [List.take_succ_cons, Tree.wts]; have := wts_take l n; omega
theorem att_wt (t : Tree) (i : Nat) : (att t i).wt ≤ t.wt := by
  cases t with
  | mk n s nul l u =>
    unfold att
    by_cases hi : i < l.length
    · have e : (Tree.mk n s nul l u).l.getD i Tree.none = l[i] := by simp [Tree.l, hi]
      rw [e]
      have := wts_mem (List.getElem_mem hi)
      simp only [Tree.wt]; omega
    · have e : (Tree.mk n s nul l u).l.getD i Tree.none = Tree.none := by simp [Tree.l, List.getD, List.getElem?_eq_none (by omega : l.length ≤ i)]
      rw [e]
      simp only [Tree.none, Tree.wt, tagsW, Tree.wts]; simp; omega
theorem s_wt (t : Tree) : t.s.length + 1 ≤ t.wt := by cases t; simp only [Tree.wt, Tree.s]; omega
theorem l_wt (t : Tree) : Tree.wts t.l + 1 ≤ t.wt := by cases t; simp only [Tree.wt, Tree.l]; omega
theorem u_wt (t : Tree) : tagsW t.u + 1 ≤ t.wt := by cases t; simp only [Tree.wt, Tree.u]; omega

theorem uvar_le6 (n : Nat) (h : n < 34359738368) : (uvar n).length ≤ 6 := by
  rw [uvar]; split
  · simp
  · rw [uvar]; split
    · simp
    · rw [uvar]; split
      · simp
      · rw [uvar]; split
        · simp
        · rw [uvar]; split
          · simp
          · omega
theorem be_len : ∀ (k : Nat) (n : Int), (be k n).length = k
  | 0, _ => rfl
  | k + 1, n => by simp only [be, List.length_cons, be_len k n]
theorem counted_le (flex null : Bool) (n size : Nat) (hn : n ≤ 1000000) (hs : size ≤ 8) : (counted flex null n size).length ≤ 8 := by
  unfold counted
  split
  · split
    · simp
    · exact Nat.le_trans (uvar_le6 _ (by omega)) (by omega)
  · split <;> rw [be_len] <;> exact hs
theorem whole_le (s : List UInt8) : (whole s).length ≤ s.length ∧ (whole s).length ≤ 32767 := by
  unfold whole Most; rw [List.length_take]; omega
theorem width8 (k : Int) : width k ≤ 8 := by
  unfold width
  split
  · omega
  · split
    · omega
    · split <;> omega
theorem wVal_le (kind : Int) (flex null : Bool) (p : Tree → List UInt8) (t : Tree) (c : Nat) (hp : (p t).length ≤ c * t.wt) : (wVal kind flex null p t).length ≤ (c + 24) * t.wt := by
  have h1 := t.wt_pos
  have hs := s_wt t
  have hw := whole_le t.s
  have hif : (if null then ([] : List UInt8) else whole t.s).length ≤ t.s.length ∧ (if null then ([] : List UInt8) else whole t.s).length ≤ 32767 := by
    cases null
    · exact hw
    · simp
  have hmul : (c + 24) * t.wt = c * t.wt + 24 * t.wt := by rw [Nat.add_mul]
  unfold wVal
  split
  · simp; omega
  · split
    · simp only [sixteen, List.length_take]; omega
    · split
      · have := counted_le flex null (if null then ([] : List UInt8) else whole t.s).length 2 (by omega) (by omega)
        rw [List.length_append]; omega
      · split
        · have := counted_le flex null (if null then ([] : List UInt8) else whole t.s).length 4 (by omega) (by omega)
          rw [List.length_append]; omega
        · split
          · omega
          · rw [be_len]
            have := width8 kind
            omega

/-- The tags' octets. -/
def tagsB (l : List (Nat × List UInt8)) : Nat := (l.map fun kv => (wTag kv.1 kv.2).length).sum
theorem tagsB_append (a b : List (Nat × List UInt8)) : tagsB (a ++ b) = tagsB a + tagsB b := by simp [tagsB]
theorem flat_tagsB (l : List (Nat × List UInt8)) : (l.flatMap fun kv => wTag kv.1 kv.2).length = tagsB l := by
  induction l with
  | nil => rfl
  | cons a l ih => simp [tagsB]
theorem tagsW_append (a b : List (Nat × List UInt8)) : tagsW (a ++ b) = tagsW a + tagsW b := by simp [tagsW]
theorem putTag_W (k : Nat) (v : List UInt8) (l : List (Nat × List UInt8)) : tagsW (putTag k v l) ≤ tagsW l + v.length + 1 := by
  induction l with
  | nil => simp [putTag, tagsW]
  | cons a l ih =>
    simp only [putTag]
    split
    · simp only [tagsW, List.map_cons, List.sum_cons] at *; omega
    · split
      · omega
      · simp only [tagsW, List.map_cons, List.sum_cons]; omega
theorem unknown_W (fs : List Fld) (u : List (Nat × List UInt8)) : tagsW (unknown fs u) ≤ tagsW u := by
  have gen : ∀ (l out : List (Nat × List UInt8)), tagsW (l.foldl (fun out kv => if kv.1 < known fs then out else putTag kv.1 kv.2 out) out) ≤ tagsW out + tagsW l := by
    intro l
    induction l with
    | nil => intro out; simp [tagsW]
    | cons a l ih =>
      intro out
      have h1 := ih (if a.1 < known fs then out else putTag a.1 a.2 out)
      have h2 : tagsW (if a.1 < known fs then out else putTag a.1 a.2 out) ≤ tagsW out + a.2.length + 1 := by
        split
        · omega
        · exact putTag_W _ _ _
      simp only [List.foldl_cons]
      simp only [tagsW, List.map_cons, List.sum_cons] at *
      omega
  have ht : tagsW (u.take Most) ≤ tagsW u := by
    have : tagsW u = tagsW (u.take Most) + tagsW (u.drop Most) := by rw [← tagsW_append, List.take_append_drop]
    omega
  have h0 : tagsW ([] : List (Nat × List UInt8)) = 0 := rfl
  have := gen (u.take Most) []
  unfold unknown
  omega
theorem putTag_key (k : Nat) (v : List UInt8) (l : List (Nat × List UInt8)) : ∀ x ∈ putTag k v l, x = (k, v) ∨ x ∈ l := by
  induction l with
  | nil => intro x hx; simp [putTag] at hx; exact .inl hx
  | cons a l ih =>
    intro x hx
    simp only [putTag] at hx
    split at hx
    · rcases List.mem_cons.1 hx with rfl | h
      · exact .inr (by simp)
      · rcases ih x h with h | h
        · exact .inl h
        · exact .inr (by simp [h])
    · split at hx
      · exact .inr hx
      · rcases List.mem_cons.1 hx with rfl | h
        · exact .inl rfl
        · exact .inr h
theorem unknown_in (fs : List Fld) (u : List (Nat × List UInt8)) : ∀ x ∈ unknown fs u, x ∈ u := by
  have gen : ∀ (l out : List (Nat × List UInt8)), ∀ x ∈ l.foldl (fun out kv => if kv.1 < known fs then out else putTag kv.1 kv.2 out) out, x ∈ out ∨ x ∈ l := by
    intro l
    induction l with
    | nil => intro out x hx; exact .inl hx
    | cons a l ih =>
      intro out x hx
      rcases ih _ x hx with h | h
      · simp only [] at h
        split at h
        · exact .inl h
        · rcases putTag_key _ _ _ x h with rfl | h
          · exact .inr (by simp)
          · exact .inl h
      · exact .inr (by simp [h])
  intro x hx
  rcases gen (u.take Most) [] x hx with h | h
  · cases h
  · exact List.mem_of_mem_take h
theorem others_le (fs : List Fld) (t : Tree) (hok : t.ok) : tagsB (others fs t.u) ≤ 14 * t.wt := by
  have h1 := unknown_W fs t.u
  have h2 := u_wt t
  have h3 : tagsB (others fs t.u) ≤ 13 * tagsW (unknown fs t.u) := by
    have gen : ∀ l : List (Nat × List UInt8), (∀ kv ∈ l, kv.1 < 4294967296) → tagsB (l.map fun kv => (kv.1, whole kv.2)) ≤ 13 * tagsW l := by
      intro l
      induction l with
      | nil => intro _; simp [tagsB]
      | cons a l ih =>
        intro h
        have := ih (fun x hx => h x (by simp [hx]))
        have ha := uvar_le6 a.1 (by have := h a (by simp); omega)
        have hb := uvar_le6 (whole a.2).length (by have := (whole_le a.2).2; omega)
        have hc := (whole_le a.2).1
        simp only [tagsB, tagsW, List.map_cons, List.sum_cons, wTag, List.length_append] at *
        omega
    exact gen _ (fun kv hkv => hok.u kv (unknown_in fs t.u kv hkv))
  omega

theorem things_le (g : Tree → List UInt8) (c : Nat) : ∀ (l : List Tree), (∀ x ∈ l, (g x).length ≤ c * x.wt) → (l.flatMap g).length ≤ c * Tree.wts l
  | [], _ => by simp
  | x :: l, h => by
    have h1 := h x (by simp)
    have h2 := things_le g c l (fun y hy => h y (by simp [hy]))
    simp only [List.flatMap_cons, List.length_append, Tree.wts, Nat.mul_add]; omega
end Go.Proofs.Ytmihblfjhoblmaa

/- How long what is written is at the most: whatever is said; and by the values and letters of the tree. No Go in sight. -/
namespace Go.Proofs.Ytmihblfjhoblmaa

theorem uvar_le1 (n : Nat) : (uvar n).length ≤ n + 1 := by
  induction n using Nat.strongRecOn with
  | _ n ih =>
    rw [uvar]; split
    · simp
    · have := ih (n / 128) (by omega)
      simp only [List.length_cons]; omega
theorem uvar_few (a b : Nat) (h : b ≤ 32767) : (uvar (a + b)).length ≤ a + 258 := by
  rw [uvar]; split
  · simp
  · have := uvar_le1 ((a + b) / 128)
    simp only [List.length_cons]; omega
/-- Tags with their octets, one more for each. -/
def tagsC (l : List (Nat × List UInt8)) : Nat := (l.map fun kv => 1 + (wTag kv.1 kv.2).length).sum
theorem tagsC_eq (l : List (Nat × List UInt8)) : tagsC l = l.length + tagsB l := by
  induction l with
  | nil => rfl
  | cons a l ih => simp only [tagsC, tagsB, List.map_cons, List.sum_cons, List.length_cons] at *; omega
theorem tagsC_append (a b : List (Nat × List UInt8)) : tagsC (a ++ b) = tagsC a + tagsC b := by simp [tagsC]
theorem tagsC_range (g : Nat → List (Nat × List UInt8)) (M : Nat) : ∀ n, (∀ k, tagsC (g k) ≤ M) → tagsC ((List.range n).flatMap g) ≤ n * M
  | 0, _ => by simp [tagsC]
  | n + 1, h => by
    rw [List.range_succ, List.flatMap_append, tagsC_append, Nat.succ_mul]
    have := tagsC_range g M n h
    have := h n
    simp only [List.flatMap_cons, List.flatMap_nil, List.append_nil]; omega
theorem unknown_few (fs : List Fld) (u : List (Nat × List UInt8)) : (unknown fs u).length ≤ 32767 := by
  have put : ∀ (k : Nat) (v : List UInt8) (l : List (Nat × List UInt8)), (putTag k v l).length ≤ l.length + 1 := by
    intro k v l
    induction l with
    | nil => simp [putTag]
    | cons a l ih =>
      simp only [putTag]
      split
      · simp; omega
      · split
        · simp
        · simp
  have gen : ∀ (l out : List (Nat × List UInt8)), (l.foldl (fun out kv => if kv.1 < known fs then out else putTag kv.1 kv.2 out) out).length ≤ out.length + l.length := by
    intro l
    induction l with
    | nil => intro out; simp
    | cons a l ih =>
      intro out
      have h1 := ih (if a.1 < known fs then out else putTag a.1 a.2 out)
      have h2 : (if a.1 < known fs then out else putTag a.1 a.2 out).length ≤ out.length + 1 := by
        split
        · omega
        · exact put _ _ _
      simp only [List.foldl_cons, List.length_cons]; omega
  have h := gen (u.take Most) []
  have hM : (u.take Most).length ≤ 32767 := by rw [List.length_take]; exact Nat.min_le_left _ _
  unfold unknown
  simp only [List.length_nil] at h; omega
theorem others_few (fs : List Fld) (u : List (Nat × List UInt8)) : (others fs u).length ≤ 32767 := by
  simp only [others, List.length_map]; exact unknown_few fs u
/-- A part's length, out of its fields' and its tags'. -/
theorem part_leF (ver : Int) (flex : Bool) (fs : List Fld) (t : Tree) (M O : Nat) (hF : (wFs ver flex fs 0 t).length ≤ M) (hT : ∀ k, tagsC (wTs ver flex fs 0 k t) ≤ M) (hO : tagsB (others fs t.u) ≤ O) :
    (wPart ver flex fs t).length ≤ (1 + known fs) * M + (bif flex then O + 258 else 0) := by
  unfold wPart asm
  rw [Nat.add_mul]
  cases flex with
  | false => simp only [Bool.false_eq_true, if_false, cond_false]; omega
  | true =>
    simp only [if_true, cond_true, List.length_append, flat_tagsB]
    have h1 := tagsC_range (fun k => wTs ver true fs 0 k t) M (known fs) hT
    have h2 : allTags ver true fs t = (List.range (known fs)).flatMap (fun k => wTs ver true fs 0 k t) ++ others fs t.u := rfl
    rw [h2, tagsB_append, List.length_append]
    have h3 := uvar_few ((List.range (known fs)).flatMap (fun k => wTs ver true fs 0 k t)).length (others fs t.u).length (others_few fs t.u)
    have h4 := tagsC_eq ((List.range (known fs)).flatMap (fun k => wTs ver true fs 0 k t))
    omega
theorem part_le (ver : Int) (flex : Bool) (fs : List Fld) (t : Tree) (M O : Nat) (hF : (wFs ver flex fs 0 t).length ≤ M) (hT : ∀ k, tagsC (wTs ver flex fs 0 k t) ≤ M) (hO : tagsB (others fs t.u) ≤ O) :
    (wPart ver flex fs t).length ≤ (1 + known fs) * M + (O + 258) := Nat.le_trans (part_leF ver flex fs t M O hF hT hO) (by cases flex <;> simp)
/-- A field's octets as a tag. -/
def tagged (tag : Int) (n : Nat) : Nat := if tag < 0 then n else n + n + tag.toNat + 3
theorem le_tagged (tag : Int) (n : Nat) : n ≤ tagged tag n := by unfold tagged; split <;> omega
theorem tag_le (k : Nat) (b : List UInt8) (n : Nat) (h : b.length ≤ n) : 1 + (wTag k b).length ≤ n + n + k + 3 := by
  have h1 := uvar_le1 k
  have h2 := uvar_le1 b.length
  simp only [wTag, List.length_append]; omega
/-- All unknown tags of a part. -/
def oF (fl : Bool) : Nat := bif fl then 1074069751 else 0
mutual
/-- The most that is written of a field. -/
def Fld.most (fl : Bool) : Fld → Nat
  | .mk kind _ _ _ _ _ of sub =>
    if kind = 11 then 8 + 32767 * (if of = 10 then (1 + known sub) * Fld.mosts fl sub + oF fl else 32783)
    else if kind = 10 then 1 + ((1 + known sub) * Fld.mosts fl sub + oF fl) else 32783
def Fld.mosts (fl : Bool) : List Fld → Nat
  | [] => 0
  | f :: fs => tagged f.tag (f.most fl) + Fld.mosts fl fs
end
def partMost (fl : Bool) (fs : List Fld) : Nat := (1 + known fs) * Fld.mosts fl fs + oF fl
theorem wVal_part (flex null : Bool) (p : Tree → List UInt8) (t : Tree) : wVal 10 flex null p t = p t := by simp [wVal]
theorem things_few (l : List Tree) : (things l).length ≤ 32767 := by unfold things Most; rw [List.length_take]; omega
mutual
/-- What a field costs by value and letter. -/
def Fld.price : Fld → Nat
  | .mk _ _ _ _ _ _ _ sub => ((1 + known sub) * Fld.prices sub + 272) + 24 + 9
def Fld.prices : List Fld → Nat
  | [] => 0
  | f :: fs => tagged f.tag f.price + Fld.prices fs
end
def partPrice (fs : List Fld) : Nat := (1 + known fs) * Fld.prices fs + 272
theorem tagged_mul (tag : Int) (n k w : Nat) (ht : tag = (k : Int)) (hw : 1 ≤ w) : n * w + n * w + k + 3 ≤ tagged tag n * w := by
  unfold tagged
  rw [if_neg (by omega)]
  have : tag.toNat = k := by omega
  rw [this, Nat.add_mul, Nat.add_mul, Nat.add_mul]
  have : k * 1 ≤ k * w := Nat.mul_le_mul_left _ hw
  omega
mutual
theorem wField_price (ver : Int) (flex : Bool) : ∀ (f : Fld) (t : Tree), t.ok → (wField ver flex f t).length ≤ f.price * t.wt
  | .mk kind fr upto nul tag df of sub, t, ht => by
    have hw := t.wt_pos
    have hp : ∀ x : Tree, x.ok → (wPart ver flex sub x).length ≤ ((1 + known sub) * Fld.prices sub + 272) * x.wt := fun x hx => by
      have hx1 := x.wt_pos
      have := part_le ver flex sub x (Fld.prices sub * x.wt) (14 * x.wt) (wFs_price ver flex sub 0 x hx) (fun k => wTs_price ver flex sub 0 k x hx) (others_le sub x hx)
      rw [Nat.add_mul, Nat.mul_assoc]
      omega
    rw [wField_mk ver flex kind fr upto nul tag df of sub t _ rfl]
    simp only [Fld.price]
    generalize (1 + known sub) * Fld.prices sub + 272 = c at hp ⊢
    have hc : (c + 24 + 9) * t.wt = (c + 24) * t.wt + 9 * t.wt := Nat.add_mul _ _ _
    by_cases h11 : kind = 11
    · simp only [h11, if_true]
      generalize (t.nul && decide (0 ≤ nul) && decide (nul ≤ ver)) = null
      have hlen : (if null then ([] : List Tree) else things t.l).length ≤ 32767 := by
        cases null
        · exact things_few t.l
        · simp
      have hmem : ∀ x ∈ (if null then ([] : List Tree) else things t.l), x.ok := by
        intro x hx
        cases null
        · exact ht.l x (List.mem_of_mem_take hx)
        · simp at hx
      have hwt : Tree.wts (if null then ([] : List Tree) else things t.l) ≤ t.wt := by
        have := l_wt t
        have := wts_take t.l Most
        cases null
        · show Tree.wts (t.l.take Most) ≤ _; omega
        · simp [Tree.wts]
      have h8 := counted_le flex null (if null then ([] : List Tree) else things t.l).length 4 (by omega) (by omega)
      rw [List.length_append]
      have h9 := things_le (wVal of flex false (wPart ver flex sub)) (c + 24) (if null then ([] : List Tree) else things t.l) (fun x hx => wVal_le of flex false _ x c (hp x (hmem x hx)))
      have h10 : (c + 24) * Tree.wts (if null then ([] : List Tree) else things t.l) ≤ (c + 24) * t.wt := Nat.mul_le_mul_left _ hwt
      omega
    · simp only [h11, if_false]
      by_cases h10 : kind = 10
      · simp only [h10, true_and]
        have h1 := hp t ht
        have h2 : c * t.wt ≤ (c + 24) * t.wt := Nat.mul_le_mul_right _ (by omega)
        split
        · split
          · rw [be_len]; omega
          · rw [List.length_append, be_len]; omega
        · rw [wVal_part]; omega
      · simp only [h10, false_and, if_false]
        have := wVal_le kind flex (t.nul && decide (0 ≤ nul) && decide (nul ≤ ver)) (wPart ver flex sub) t c (hp t ht)
        omega
theorem wFs_price (ver : Int) (flex : Bool) : ∀ (fs : List Fld) (i : Nat) (t : Tree), t.ok → (wFs ver flex fs i t).length ≤ Fld.prices fs * t.wt
  | [], _, _, _ => by simp [wFs]
  | f :: fs, i, t, ht => by
    have h1 := wField_price ver flex f (att t i) (ht.at i)
    have h2 := wFs_price ver flex fs (i + 1) t ht
    have h3 : f.price * (att t i).wt ≤ tagged f.tag f.price * t.wt := Nat.mul_le_mul (le_tagged _ _) (att_wt t i)
    simp only [wFs, Fld.prices, List.length_append, Nat.add_mul]
    split
    · omega
    · simp only [List.length_nil]; omega
theorem wTs_price (ver : Int) (flex : Bool) : ∀ (fs : List Fld) (i k : Nat) (t : Tree), t.ok → tagsC (wTs ver flex fs i k t) ≤ Fld.prices fs * t.wt
  | [], _, _, _, _ => by simp [wTs, tagsC]
  | f :: fs, i, k, t, ht => by
    have h1 := wField_price ver flex f (att t i) (ht.at i)
    have h2 := wTs_price ver flex fs (i + 1) k t ht
    simp only [wTs, Fld.prices, tagsC_append, Nat.add_mul]
    split
    · rename_i h
      have h0 : f.price * (att t i).wt ≤ f.price * t.wt := Nat.mul_le_mul_left _ (att_wt t i)
      have h3 := tag_le k (wField ver flex f (att t i)) (f.price * t.wt) (by omega)
      have h4 := tagged_mul f.tag f.price k t.wt h.1 t.wt_pos
      simp only [tagsC, List.map_cons, List.map_nil, List.sum_cons, List.sum_nil] at h2 ⊢; omega
    · have : tagsC ([] : List (Nat × List UInt8)) = 0 := rfl
      omega
end
theorem wPart_price (ver : Int) (flex : Bool) (fs : List Fld) (t : Tree) (ht : t.ok) : (wPart ver flex fs t).length ≤ partPrice fs * t.wt := by
  have hx1 := t.wt_pos
  have := part_le ver flex fs t (Fld.prices fs * t.wt) (14 * t.wt) (wFs_price ver flex fs 0 t ht) (fun k => wTs_price ver flex fs 0 k t ht) (others_le fs t ht)
  unfold partPrice
  rw [Nat.add_mul, Nat.mul_assoc]
  omega
end Go.Proofs.Ytmihblfjhoblmaa

/- The reference's small functions: what each comes to. -/
namespace Go.Proofs.Ytmihblfjhoblmaa
open Go Go.RowKit

section
set_option maxRecDepth 100000
/-- The call comes to a value of which R holds, and nothing that was there has turned. -/
def Fn (F : FuncId) (vs : List Value) (w : World) (R : Value → World → Prop) : Prop :=
  Calls Try.prog F vs.toArray w fun e w' => ∃ v, e = .returned v ∧ Below w.heap.size w w' ∧ R v w'

theorem fn_has (f : Fld) (ver : Int) (B : Nat) (w : World) (_hB : B ≤ w.heap.size) (cs : List Value) (hf : Rep (Lo B) w (fldD f) cs) :
    Fn 97 [.agg cs.toArray, .int .i64 ver] w fun v _ => v = .bool (f.has ver) := by
  obtain ⟨sv, rfl, _⟩ := fld_cells hf
  refine enter Try.func97 rfl Try.ntmps97 rfl ?_
  repeat first|(with_reducible first|apply wc_seq|apply wc_region|apply wl_nil|apply qk_thn|apply wc_block|apply wc_skip|apply wc_ret|apply wc_exit|apply qk_thn_ret|apply qk_in_ret|apply qk_in|apply qk_thn_exit|apply qk_in_exit|apply qk_round_ret|apply qk_round_exit)|((with_reducible apply ws);exact rfl;exact rfl)|((with_reducible apply wl_yes);exact rfl;exact rfl;exact rfl)|((with_reducible apply wl_no);exact rfl;exact rfl;exact rfl;exact rfl)|((with_reducible apply wl_noU);exact rfl;exact rfl;exact rfl)
  refine wl_box1 rfl rfl rfl (fun w1 hb hg hs => ?_)
  repeat first|(with_reducible first|apply wc_seq|apply wc_region|apply wl_nil|apply qk_thn|apply wc_block|apply wc_skip|apply wc_ret|apply wc_exit|apply qk_thn_ret|apply qk_in_ret|apply qk_in|apply qk_thn_exit|apply qk_in_exit|apply qk_round_ret|apply qk_round_exit)|((with_reducible apply ws);exact rfl;exact rfl)|((with_reducible apply wl_yes);exact rfl;exact rfl;exact rfl)|((with_reducible apply wl_no);exact rfl;exact rfl;exact rfl;exact rfl)|((with_reducible apply wl_noU);exact rfl;exact rfl;exact rfl)
  refine wl_loadB rfl to_int rfl hb rfl ?_
  repeat first|(with_reducible first|apply wc_seq|apply wc_region|apply wl_nil|apply qk_thn|apply wc_block|apply wc_skip|apply wc_ret|apply wc_exit|apply qk_thn_ret|apply qk_in_ret|apply qk_in|apply qk_thn_exit|apply qk_in_exit|apply qk_round_ret|apply qk_round_exit)|((with_reducible apply ws);exact rfl;exact rfl)|((with_reducible apply wl_yes);exact rfl;exact rfl;exact rfl)|((with_reducible apply wl_no);exact rfl;exact rfl;exact rfl;exact rfl)|((with_reducible apply wl_noU);exact rfl;exact rfl;exact rfl)
  have hfin : Below w.heap.size w w1 := below_of hg (Nat.le_refl _) (by simp)
  by_cases h1 : f.fr ≤ ver
  · have e1 : decide (f.fr ≤ ver) = true := by simpa using h1
    rw [e1]
    repeat first|(with_reducible first|apply wc_seq|apply wc_region|apply wl_nil|apply qk_thn|apply wc_block|apply wc_skip|apply wc_ret|apply wc_exit|apply qk_thn_ret|apply qk_in_ret|apply qk_in|apply qk_thn_exit|apply qk_in_exit|apply qk_round_ret|apply qk_round_exit)|((with_reducible apply ws);exact rfl;exact rfl)|((with_reducible apply wl_yes);exact rfl;exact rfl;exact rfl)|((with_reducible apply wl_no);exact rfl;exact rfl;exact rfl;exact rfl)|((with_reducible apply wl_noU);exact rfl;exact rfl;exact rfl)
    refine wl_loadB rfl to_int rfl hb rfl ?_
    repeat first|(with_reducible first|apply wc_seq|apply wc_region|apply wl_nil|apply qk_thn|apply wc_block|apply wc_skip|apply wc_ret|apply wc_exit|apply qk_thn_ret|apply qk_in_ret|apply qk_in|apply qk_thn_exit|apply qk_in_exit|apply qk_round_ret|apply qk_round_exit)|((with_reducible apply ws);exact rfl;exact rfl)|((with_reducible apply wl_yes);exact rfl;exact rfl;exact rfl)|((with_reducible apply wl_no);exact rfl;exact rfl;exact rfl;exact rfl)|((with_reducible apply wl_noU);exact rfl;exact rfl;exact rfl)
    by_cases h2 : f.upto < 0
    · have e2 : decide (f.upto < 0) = true := by simpa using h2
      rw [e2]
      repeat first|(with_reducible first|apply wc_seq|apply wc_region|apply wl_nil|apply qk_thn|apply wc_block|apply wc_skip|apply wc_ret|apply wc_exit|apply qk_thn_ret|apply qk_in_ret|apply qk_in|apply qk_thn_exit|apply qk_in_exit|apply qk_round_ret|apply qk_round_exit)|((with_reducible apply ws);exact rfl;exact rfl)|((with_reducible apply wl_yes);exact rfl;exact rfl;exact rfl)|((with_reducible apply wl_no);exact rfl;exact rfl;exact rfl;exact rfl)|((with_reducible apply wl_noU);exact rfl;exact rfl;exact rfl)
      exact qk_ret1 rfl rfl ⟨_, rfl, hfin, by simp [Fld.has, h1, h2]⟩
    · have e2 : decide (f.upto < 0) = false := by simpa using h2
      rw [e2]
      repeat first|(with_reducible first|apply wc_seq|apply wc_region|apply wl_nil|apply qk_thn|apply wc_block|apply wc_skip|apply wc_ret|apply wc_exit|apply qk_thn_ret|apply qk_in_ret|apply qk_in|apply qk_thn_exit|apply qk_in_exit|apply qk_round_ret|apply qk_round_exit)|((with_reducible apply ws);exact rfl;exact rfl)|((with_reducible apply wl_yes);exact rfl;exact rfl;exact rfl)|((with_reducible apply wl_no);exact rfl;exact rfl;exact rfl;exact rfl)|((with_reducible apply wl_noU);exact rfl;exact rfl;exact rfl)
      refine wl_loadB rfl to_int rfl hb rfl ?_
      repeat first|(with_reducible first|apply wc_seq|apply wc_region|apply wl_nil|apply qk_thn|apply wc_block|apply wc_skip|apply wc_ret|apply wc_exit|apply qk_thn_ret|apply qk_in_ret|apply qk_in|apply qk_thn_exit|apply qk_in_exit|apply qk_round_ret|apply qk_round_exit)|((with_reducible apply ws);exact rfl;exact rfl)|((with_reducible apply wl_yes);exact rfl;exact rfl;exact rfl)|((with_reducible apply wl_no);exact rfl;exact rfl;exact rfl;exact rfl)|((with_reducible apply wl_noU);exact rfl;exact rfl;exact rfl)
      exact qk_ret1 rfl rfl ⟨_, rfl, hfin, by simp [Fld.has, h1, h2]⟩
  · have e1 : decide (f.fr ≤ ver) = false := by simpa using h1
    rw [e1]
    repeat first|(with_reducible first|apply wc_seq|apply wc_region|apply wl_nil|apply qk_thn|apply wc_block|apply wc_skip|apply wc_ret|apply wc_exit|apply qk_thn_ret|apply qk_in_ret|apply qk_in|apply qk_thn_exit|apply qk_in_exit|apply qk_round_ret|apply qk_round_exit)|((with_reducible apply ws);exact rfl;exact rfl)|((with_reducible apply wl_yes);exact rfl;exact rfl;exact rfl)|((with_reducible apply wl_no);exact rfl;exact rfl;exact rfl;exact rfl)|((with_reducible apply wl_noU);exact rfl;exact rfl;exact rfl)
    exact qk_ret1 rfl rfl ⟨_, rfl, hfin, by simp [Fld.has, h1]⟩

theorem fn_null (f : Fld) (ver : Int) (t : Tree) (B : Nat) (w : World) (_hB : B ≤ w.heap.size) (cs ts : List Value) (hf : Rep (Lo B) w (fldD f) cs) (ht : Rep (Lo B) w (treeD t) ts) :
    Fn 94 [.agg cs.toArray, .int .i64 ver, .agg ts.toArray] w fun v _ => v = .bool (f.null ver t) := by
  obtain ⟨sv, rfl, _⟩ := fld_cells hf
  obtain ⟨sv2, lv, uv, rfl, _, _, _⟩ := tree_cells ht
  refine enter Try.func94 rfl Try.ntmps94 rfl ?_
  repeat first|(with_reducible first|apply wc_seq|apply wc_region|apply wl_nil|apply qk_thn|apply wc_block|apply wc_skip|apply wc_ret|apply wc_exit|apply qk_thn_ret|apply qk_in_ret|apply qk_in|apply qk_thn_exit|apply qk_in_exit|apply qk_round_ret|apply qk_round_exit)|((with_reducible apply ws);exact rfl;exact rfl)|((with_reducible apply wl_yes);exact rfl;exact rfl;exact rfl)|((with_reducible apply wl_no);exact rfl;exact rfl;exact rfl;exact rfl)|((with_reducible apply wl_noU);exact rfl;exact rfl;exact rfl)
  refine wl_box1 rfl rfl rfl (fun w1 hb1 hg1 hs1 => wl_box1 rfl rfl rfl (fun w2 hb2 hg2 hs2 => ?_))
  have hb := hb1.kept hg2 (by simp)
  have hfin : Below w.heap.size w w2 := (below_of hg1 (Nat.le_refl _) (by simp)).trans (below_of hg2 (by omega) (by simp))
  repeat first|(with_reducible first|apply wc_seq|apply wc_region|apply wl_nil|apply qk_thn|apply wc_block|apply wc_skip|apply wc_ret|apply wc_exit|apply qk_thn_ret|apply qk_in_ret|apply qk_in|apply qk_thn_exit|apply qk_in_exit|apply qk_round_ret|apply qk_round_exit)|((with_reducible apply ws);exact rfl;exact rfl)|((with_reducible apply wl_yes);exact rfl;exact rfl;exact rfl)|((with_reducible apply wl_no);exact rfl;exact rfl;exact rfl;exact rfl)|((with_reducible apply wl_noU);exact rfl;exact rfl;exact rfl)
  refine wl_loadB rfl to_bool rfl hb2 rfl ?_
  repeat first|(with_reducible first|apply wc_seq|apply wc_region|apply wl_nil|apply qk_thn|apply wc_block|apply wc_skip|apply wc_ret|apply wc_exit|apply qk_thn_ret|apply qk_in_ret|apply qk_in|apply qk_thn_exit|apply qk_in_exit|apply qk_round_ret|apply qk_round_exit)|((with_reducible apply ws);exact rfl;exact rfl)|((with_reducible apply wl_yes);exact rfl;exact rfl;exact rfl)|((with_reducible apply wl_no);exact rfl;exact rfl;exact rfl;exact rfl)|((with_reducible apply wl_noU);exact rfl;exact rfl;exact rfl)
  cases hn : t.nul
  · repeat first|(with_reducible first|apply wc_seq|apply wc_region|apply wl_nil|apply qk_thn|apply wc_block|apply wc_skip|apply wc_ret|apply wc_exit|apply qk_thn_ret|apply qk_in_ret|apply qk_in|apply qk_thn_exit|apply qk_in_exit|apply qk_round_ret|apply qk_round_exit)|((with_reducible apply ws);exact rfl;exact rfl)|((with_reducible apply wl_yes);exact rfl;exact rfl;exact rfl)|((with_reducible apply wl_no);exact rfl;exact rfl;exact rfl;exact rfl)|((with_reducible apply wl_noU);exact rfl;exact rfl;exact rfl)
    exact qk_ret1 rfl rfl ⟨_, rfl, hfin, by simp [Fld.null, hn]⟩
  · repeat first|(with_reducible first|apply wc_seq|apply wc_region|apply wl_nil|apply qk_thn|apply wc_block|apply wc_skip|apply wc_ret|apply wc_exit|apply qk_thn_ret|apply qk_in_ret|apply qk_in|apply qk_thn_exit|apply qk_in_exit|apply qk_round_ret|apply qk_round_exit)|((with_reducible apply ws);exact rfl;exact rfl)|((with_reducible apply wl_yes);exact rfl;exact rfl;exact rfl)|((with_reducible apply wl_no);exact rfl;exact rfl;exact rfl;exact rfl)|((with_reducible apply wl_noU);exact rfl;exact rfl;exact rfl)
    refine wl_loadB rfl to_int rfl hb rfl ?_
    repeat first|(with_reducible first|apply wc_seq|apply wc_region|apply wl_nil|apply qk_thn|apply wc_block|apply wc_skip|apply wc_ret|apply wc_exit|apply qk_thn_ret|apply qk_in_ret|apply qk_in|apply qk_thn_exit|apply qk_in_exit|apply qk_round_ret|apply qk_round_exit)|((with_reducible apply ws);exact rfl;exact rfl)|((with_reducible apply wl_yes);exact rfl;exact rfl;exact rfl)|((with_reducible apply wl_no);exact rfl;exact rfl;exact rfl;exact rfl)|((with_reducible apply wl_noU);exact rfl;exact rfl;exact rfl)
    by_cases h1 : 0 ≤ f.nul
    · have e1 : decide (0 ≤ f.nul) = true := by simpa using h1
      rw [e1]
      repeat first|(with_reducible first|apply wc_seq|apply wc_region|apply wl_nil|apply qk_thn|apply wc_block|apply wc_skip|apply wc_ret|apply wc_exit|apply qk_thn_ret|apply qk_in_ret|apply qk_in|apply qk_thn_exit|apply qk_in_exit|apply qk_round_ret|apply qk_round_exit)|((with_reducible apply ws);exact rfl;exact rfl)|((with_reducible apply wl_yes);exact rfl;exact rfl;exact rfl)|((with_reducible apply wl_no);exact rfl;exact rfl;exact rfl;exact rfl)|((with_reducible apply wl_noU);exact rfl;exact rfl;exact rfl)
      refine wl_loadB rfl to_int rfl hb rfl ?_
      repeat first|(with_reducible first|apply wc_seq|apply wc_region|apply wl_nil|apply qk_thn|apply wc_block|apply wc_skip|apply wc_ret|apply wc_exit|apply qk_thn_ret|apply qk_in_ret|apply qk_in|apply qk_thn_exit|apply qk_in_exit|apply qk_round_ret|apply qk_round_exit)|((with_reducible apply ws);exact rfl;exact rfl)|((with_reducible apply wl_yes);exact rfl;exact rfl;exact rfl)|((with_reducible apply wl_no);exact rfl;exact rfl;exact rfl;exact rfl)|((with_reducible apply wl_noU);exact rfl;exact rfl;exact rfl)
      exact qk_ret1 rfl rfl ⟨_, rfl, hfin, by simp [Fld.null, hn, h1]⟩
    · have e1 : decide (0 ≤ f.nul) = false := by simpa using h1
      rw [e1]
      repeat first|(with_reducible first|apply wc_seq|apply wc_region|apply wl_nil|apply qk_thn|apply wc_block|apply wc_skip|apply wc_ret|apply wc_exit|apply qk_thn_ret|apply qk_in_ret|apply qk_in|apply qk_thn_exit|apply qk_in_exit|apply qk_round_ret|apply qk_round_exit)|((with_reducible apply ws);exact rfl;exact rfl)|((with_reducible apply wl_yes);exact rfl;exact rfl;exact rfl)|((with_reducible apply wl_no);exact rfl;exact rfl;exact rfl;exact rfl)|((with_reducible apply wl_noU);exact rfl;exact rfl;exact rfl)
      exact qk_ret1 rfl rfl ⟨_, rfl, hfin, by simp [Fld.null, hn, h1]⟩

theorem fn_at (t : Tree) (i : Nat) (B : Nat) (w : World) (hB : B ≤ w.heap.size) (ts : List Value) (ht : Rep (Lo B) w (treeD t) ts) :
    Fn 41 [.agg ts.toArray, .int .i64 (i : Int)] w fun v w' => ∃ cs : List Value, v = .agg cs.toArray ∧ Rep (Lo B) w' (treeD (att t i)) cs := by
  obtain ⟨sv2, lv, uv, rfl, _, hl, _⟩ := tree_cells ht
  obtain ⟨la, lc, rfl, _⟩ := hl.shape
  refine enter Try.func41 rfl Try.ntmps41 rfl ?_
  repeat first|(with_reducible first|apply wc_seq|apply wc_region|apply wl_nil|apply qk_thn|apply wc_block|apply wc_skip|apply wc_ret|apply wc_exit|apply qk_thn_ret|apply qk_in_ret|apply qk_in|apply qk_thn_exit|apply qk_in_exit|apply qk_round_ret|apply qk_round_exit)|((with_reducible apply ws);exact rfl;exact rfl)|((with_reducible apply wl_yes);exact rfl;exact rfl;exact rfl)|((with_reducible apply wl_no);exact rfl;exact rfl;exact rfl;exact rfl)|((with_reducible apply wl_noU);exact rfl;exact rfl;exact rfl)
  refine wl_box1 rfl rfl rfl (fun w1 hb1 hg1 hs1 => wl_alloc zv_tree rfl rfl (fun w2 hb2 hg2 hs2 => ?_))
  have hb := hb1.kept hg2 (by simp)
  have hw2 : Below w.heap.size w w2 := (below_of hg1 (Nat.le_refl _) (by simp)).trans (below_of hg2 (by omega) (by simp))
  repeat first|(with_reducible first|apply wc_seq|apply wc_region|apply wl_nil|apply qk_thn|apply wc_block|apply wc_skip|apply wc_ret|apply wc_exit|apply qk_thn_ret|apply qk_in_ret|apply qk_in|apply qk_thn_exit|apply qk_in_exit|apply qk_round_ret|apply qk_round_exit)|((with_reducible apply ws);exact rfl;exact rfl)|((with_reducible apply wl_yes);exact rfl;exact rfl;exact rfl)|((with_reducible apply wl_no);exact rfl;exact rfl;exact rfl;exact rfl)|((with_reducible apply wl_noU);exact rfl;exact rfl;exact rfl)
  refine wl_loadB rfl to_trees rfl hb rfl ?_
  repeat first|(with_reducible first|apply wc_seq|apply wc_region|apply wl_nil|apply qk_thn|apply wc_block|apply wc_skip|apply wc_ret|apply wc_exit|apply qk_thn_ret|apply qk_in_ret|apply qk_in|apply qk_thn_exit|apply qk_in_exit|apply qk_round_ret|apply qk_round_exit)|((with_reducible apply ws);exact rfl;exact rfl)|((with_reducible apply wl_yes);exact rfl;exact rfl;exact rfl)|((with_reducible apply wl_no);exact rfl;exact rfl;exact rfl;exact rfl)|((with_reducible apply wl_noU);exact rfl;exact rfl;exact rfl)
  by_cases h : i < t.l.length
  · refine wc_yes rfl (by simpa using h) ?_
    have hl2 := hl.below (hw2.mono hB) (Nat.le_refl _)
    obtain ⟨b, off, c, cs, hv, hbB, hcs, hlen, hr⟩ := hl2.get (sz := 5) (i := i) (by intro d hd; obtain ⟨x, _, rfl⟩ := List.mem_map.1 hd; exact treeD_width x) (by simpa using h)
    simp only [Value.slice.injEq, List.length_map] at hv
    obtain ⟨rfl, _, rfl⟩ := hv
    simp only [List.getElem_map] at hr
    repeat first|(with_reducible first|apply wc_seq|apply wc_region|apply wl_nil|apply qk_thn|apply wc_block|apply wc_skip|apply wc_ret|apply wc_exit|apply qk_thn_ret|apply qk_in_ret|apply qk_in|apply qk_thn_exit|apply qk_in_exit|apply qk_round_ret|apply qk_round_exit)|((with_reducible apply ws);exact rfl;exact rfl)|((with_reducible apply wl_yes);exact rfl;exact rfl;exact rfl)|((with_reducible apply wl_no);exact rfl;exact rfl;exact rfl;exact rfl)|((with_reducible apply wl_noU);exact rfl;exact rfl;exact rfl)
    refine wl_loadB rfl to_trees rfl hb rfl ?_
    repeat first|(with_reducible first|apply wc_seq|apply wc_region|apply wl_nil|apply qk_thn|apply wc_block|apply wc_skip|apply wc_ret|apply wc_exit|apply qk_thn_ret|apply qk_in_ret|apply qk_in|apply qk_thn_exit|apply qk_in_exit|apply qk_round_ret|apply qk_round_exit)|((with_reducible apply ws);exact rfl;exact rfl)|((with_reducible apply wl_yes);exact rfl;exact rfl;exact rfl)|((with_reducible apply wl_no);exact rfl;exact rfl;exact rfl;exact rfl)|((with_reducible apply wl_noU);exact rfl;exact rfl;exact rfl)
    refine wl_indexAddr rfl rfl es_trees rfl (by simpa using h) ?_
    refine wl_loadAgg rfl (by rw [hlen]; exact ta_tree) rfl (fun j v e => hcs.cell e) ?_
    obtain ⟨hone, hlen5⟩ := tree_one hr
    refine wl_storeBAgg rfl rfl rfl (by rw [hlen5]; exact tz_tree) hone hb2 (by rw [hlen5]; rfl) (fun w3 hb3 hg3 hs3 => ?_)
    repeat first|(with_reducible first|apply wc_seq|apply wc_region|apply wl_nil|apply qk_thn|apply wc_block|apply wc_skip|apply wc_ret|apply wc_exit|apply qk_thn_ret|apply qk_in_ret|apply qk_in|apply qk_thn_exit|apply qk_in_exit|apply qk_round_ret|apply qk_round_exit)|((with_reducible apply ws);exact rfl;exact rfl)|((with_reducible apply wl_yes);exact rfl;exact rfl;exact rfl)|((with_reducible apply wl_no);exact rfl;exact rfl;exact rfl;exact rfl)|((with_reducible apply wl_noU);exact rfl;exact rfl;exact rfl)
    have hw3 : Below w.heap.size w w3 := hw2.trans (below_of hg3 (by omega) (by intro k hk; simp at hk; omega))
    refine qk_retCell rfl rfl (by rw [hlen5]; exact ta_tree) hb3 ⟨_, rfl, hw3, cs, rfl, ?_⟩
    have : att t i = t.l[i] := by simp [att, h]
    rw [this]
    exact hr.below (below_of hg3 (by omega) (by intro k hk; simp at hk; omega)) (Nat.le_refl _)
  · refine wc_no rfl (by simpa using h) ?_
    repeat first|(with_reducible first|apply wc_seq|apply wc_region|apply wl_nil|apply qk_thn|apply wc_block|apply wc_skip|apply wc_ret|apply wc_exit|apply qk_thn_ret|apply qk_in_ret|apply qk_in|apply qk_thn_exit|apply qk_in_exit|apply qk_round_ret|apply qk_round_exit)|((with_reducible apply ws);exact rfl;exact rfl)|((with_reducible apply wl_yes);exact rfl;exact rfl;exact rfl)|((with_reducible apply wl_no);exact rfl;exact rfl;exact rfl;exact rfl)|((with_reducible apply wl_noU);exact rfl;exact rfl;exact rfl)
    refine wl_build rfl (cs := [.int .i64 0, .slice none 0 0, .bool false, .slice none 0 0, .slice none 0 0]) (by kernel_rfl) rfl ?_
    refine wl_storeBAgg rfl rfl rfl tz_tree rfl hb2 rfl (fun w3 hb3 hg3 hs3 => ?_)
    repeat first|(with_reducible first|apply wc_seq|apply wc_region|apply wl_nil|apply qk_thn|apply wc_block|apply wc_skip|apply wc_ret|apply wc_exit|apply qk_thn_ret|apply qk_in_ret|apply qk_in|apply qk_thn_exit|apply qk_in_exit|apply qk_round_ret|apply qk_round_exit)|((with_reducible apply ws);exact rfl;exact rfl)|((with_reducible apply wl_yes);exact rfl;exact rfl;exact rfl)|((with_reducible apply wl_no);exact rfl;exact rfl;exact rfl;exact rfl)|((with_reducible apply wl_noU);exact rfl;exact rfl;exact rfl)
    have hw3 : Below w.heap.size w w3 := hw2.trans (below_of hg3 (by omega) (by intro k hk; simp at hk; omega))
    refine qk_retCell (cs := [.int .i64 0, .slice none 0 0, .bool false, .slice none 0 0, .slice none 0 0]) rfl rfl ta_tree hb3 ⟨_, rfl, hw3, _, rfl, ?_⟩
    have : att t i = Tree.none := by simp [att, List.getD, List.getElem?_eq_none (by omega : t.l.length ≤ i)]
    rw [this]
    exact tree_none _ _

theorem take_min {α : Type} (l : List α) (n : Nat) : l.take (min l.length n) = l.take n := by
  by_cases h : n ≤ l.length
  · rw [Nat.min_eq_right h]
  · rw [Nat.min_eq_left (by omega), List.take_of_length_le (by omega), List.take_of_length_le (by omega)]
theorem min_if (n : Nat) : (if (32767 : Int) < (n : Int) then (32767 : Int) else (n : Int)) = ((min n Most : Nat) : Int) := by
  unfold Most
  split <;> omega
theorem fn_whole (v : Value) (ds : List D) (B : Nat) (w : World) (h : Sq B w v ds) : Fn 43 [v] w fun v' w' => w' = w ∧ Sq B w v' (ds.take Most) := by
  obtain ⟨a, c, rfl, hc⟩ := h.shape
  refine enter Try.func43 rfl Try.ntmps43 rfl ?_
  repeat first|(with_reducible first|apply wc_seq|apply wc_region|apply wl_nil|apply qk_thn|apply wc_block|apply wc_skip|apply wc_ret|apply wc_exit|apply qk_thn_ret|apply qk_in_ret|apply qk_in|apply qk_thn_exit|apply qk_in_exit|apply qk_round_ret|apply qk_round_exit)|((with_reducible apply ws);exact rfl;exact rfl)|((with_reducible apply wl_yes);exact rfl;exact rfl;exact rfl)|((with_reducible apply wl_no);exact rfl;exact rfl;exact rfl;exact rfl)|((with_reducible apply wl_noU);exact rfl;exact rfl;exact rfl)
  refine wl_min rfl rfl rfl (min_if ds.length) ?_
  refine wl_sliceHi rfl rfl el_bytes rfl (by omega) ?_
  repeat first|(with_reducible first|apply wc_seq|apply wc_region|apply wl_nil|apply qk_thn|apply wc_block|apply wc_skip|apply wc_ret|apply wc_exit|apply qk_thn_ret|apply qk_in_ret|apply qk_in|apply qk_thn_exit|apply qk_in_exit|apply qk_round_ret|apply qk_round_exit)|((with_reducible apply ws);exact rfl;exact rfl)|((with_reducible apply wl_yes);exact rfl;exact rfl;exact rfl)|((with_reducible apply wl_no);exact rfl;exact rfl;exact rfl;exact rfl)|((with_reducible apply wl_noU);exact rfl;exact rfl;exact rfl)
  exact qk_ret1 rfl rfl ⟨_, rfl, Below.refl _ _, rfl, by rw [← take_min ds Most]; exact h.take (by omega)⟩
theorem fn_things (v : Value) (ds : List D) (B : Nat) (w : World) (h : Sq B w v ds) : Fn 95 [v] w fun v' w' => w' = w ∧ Sq B w v' (ds.take Most) := by
  obtain ⟨a, c, rfl, hc⟩ := h.shape
  refine enter Try.func95 rfl Try.ntmps95 rfl ?_
  repeat first|(with_reducible first|apply wc_seq|apply wc_region|apply wl_nil|apply qk_thn|apply wc_block|apply wc_skip|apply wc_ret|apply wc_exit|apply qk_thn_ret|apply qk_in_ret|apply qk_in|apply qk_thn_exit|apply qk_in_exit|apply qk_round_ret|apply qk_round_exit)|((with_reducible apply ws);exact rfl;exact rfl)|((with_reducible apply wl_yes);exact rfl;exact rfl;exact rfl)|((with_reducible apply wl_no);exact rfl;exact rfl;exact rfl;exact rfl)|((with_reducible apply wl_noU);exact rfl;exact rfl;exact rfl)
  refine wl_min rfl rfl rfl (min_if ds.length) ?_
  refine wl_sliceHi rfl rfl el_trees rfl (by omega) ?_
  repeat first|(with_reducible first|apply wc_seq|apply wc_region|apply wl_nil|apply qk_thn|apply wc_block|apply wc_skip|apply wc_ret|apply wc_exit|apply qk_thn_ret|apply qk_in_ret|apply qk_in|apply qk_thn_exit|apply qk_in_exit|apply qk_round_ret|apply qk_round_exit)|((with_reducible apply ws);exact rfl;exact rfl)|((with_reducible apply wl_yes);exact rfl;exact rfl;exact rfl)|((with_reducible apply wl_no);exact rfl;exact rfl;exact rfl;exact rfl)|((with_reducible apply wl_noU);exact rfl;exact rfl;exact rfl)
  exact qk_ret1 rfl rfl ⟨_, rfl, Below.refl _ _, rfl, by rw [← take_min ds Most]; exact h.take (by omega)⟩

theorem fn_width (k : Int) (w : World) : Fn 130 [.int .i64 k] w fun v' w' => w' = w ∧ v' = .int .i64 (width k : Nat) := by
  refine enter Try.func130 rfl Try.ntmps130 rfl ?_
  repeat first|(with_reducible first|apply wc_seq|apply wc_region|apply wl_nil|apply qk_thn|apply wc_block|apply wc_skip|apply wc_ret|apply wc_exit|apply qk_thn_ret|apply qk_in_ret|apply qk_in|apply qk_thn_exit|apply qk_in_exit|apply qk_round_ret|apply qk_round_exit)|((with_reducible apply ws);exact rfl;exact rfl)|((with_reducible apply wl_yes);exact rfl;exact rfl;exact rfl)|((with_reducible apply wl_no);exact rfl;exact rfl;exact rfl;exact rfl)|((with_reducible apply wl_noU);exact rfl;exact rfl;exact rfl)
  by_cases h1 : k = 1
  · subst h1
    refine wc_yes rfl (by decide) ?_
    repeat first|(with_reducible first|apply wc_seq|apply wc_region|apply wl_nil|apply qk_thn|apply wc_block|apply wc_skip|apply wc_ret|apply wc_exit|apply qk_thn_ret|apply qk_in_ret|apply qk_in|apply qk_thn_exit|apply qk_in_exit|apply qk_round_ret|apply qk_round_exit)|((with_reducible apply ws);exact rfl;exact rfl)|((with_reducible apply wl_yes);exact rfl;exact rfl;exact rfl)|((with_reducible apply wl_no);exact rfl;exact rfl;exact rfl;exact rfl)|((with_reducible apply wl_noU);exact rfl;exact rfl;exact rfl)
    exact qk_ret1 rfl rfl ⟨_, rfl, Below.refl _ _, rfl, rfl⟩
  · refine wc_no rfl (by simpa using h1) ?_
    repeat first|(with_reducible first|apply wc_seq|apply wc_region|apply wl_nil|apply qk_thn|apply wc_block|apply wc_skip|apply wc_ret|apply wc_exit|apply qk_thn_ret|apply qk_in_ret|apply qk_in|apply qk_thn_exit|apply qk_in_exit|apply qk_round_ret|apply qk_round_exit)|((with_reducible apply ws);exact rfl;exact rfl)|((with_reducible apply wl_yes);exact rfl;exact rfl;exact rfl)|((with_reducible apply wl_no);exact rfl;exact rfl;exact rfl;exact rfl)|((with_reducible apply wl_noU);exact rfl;exact rfl;exact rfl)
    by_cases h2 : k = 2
    · subst h2
      refine wc_yes rfl (by decide) ?_
      repeat first|(with_reducible first|apply wc_seq|apply wc_region|apply wl_nil|apply qk_thn|apply wc_block|apply wc_skip|apply wc_ret|apply wc_exit|apply qk_thn_ret|apply qk_in_ret|apply qk_in|apply qk_thn_exit|apply qk_in_exit|apply qk_round_ret|apply qk_round_exit)|((with_reducible apply ws);exact rfl;exact rfl)|((with_reducible apply wl_yes);exact rfl;exact rfl;exact rfl)|((with_reducible apply wl_no);exact rfl;exact rfl;exact rfl;exact rfl)|((with_reducible apply wl_noU);exact rfl;exact rfl;exact rfl)
      refine wc_yes rfl (by decide) ?_
      repeat first|(with_reducible first|apply wc_seq|apply wc_region|apply wl_nil|apply qk_thn|apply wc_block|apply wc_skip|apply wc_ret|apply wc_exit|apply qk_thn_ret|apply qk_in_ret|apply qk_in|apply qk_thn_exit|apply qk_in_exit|apply qk_round_ret|apply qk_round_exit)|((with_reducible apply ws);exact rfl;exact rfl)|((with_reducible apply wl_yes);exact rfl;exact rfl;exact rfl)|((with_reducible apply wl_no);exact rfl;exact rfl;exact rfl;exact rfl)|((with_reducible apply wl_noU);exact rfl;exact rfl;exact rfl)
      exact qk_ret1 rfl rfl ⟨_, rfl, Below.refl _ _, rfl, rfl⟩
    · refine wc_no rfl (by simpa using h2) ?_
      repeat first|(with_reducible first|apply wc_seq|apply wc_region|apply wl_nil|apply qk_thn|apply wc_block|apply wc_skip|apply wc_ret|apply wc_exit|apply qk_thn_ret|apply qk_in_ret|apply qk_in|apply qk_thn_exit|apply qk_in_exit|apply qk_round_ret|apply qk_round_exit)|((with_reducible apply ws);exact rfl;exact rfl)|((with_reducible apply wl_yes);exact rfl;exact rfl;exact rfl)|((with_reducible apply wl_no);exact rfl;exact rfl;exact rfl;exact rfl)|((with_reducible apply wl_noU);exact rfl;exact rfl;exact rfl)
      by_cases h5 : k = 5
      · subst h5
        refine wc_yes rfl (by decide) ?_
        repeat first|(with_reducible first|apply wc_seq|apply wc_region|apply wl_nil|apply qk_thn|apply wc_block|apply wc_skip|apply wc_ret|apply wc_exit|apply qk_thn_ret|apply qk_in_ret|apply qk_in|apply qk_thn_exit|apply qk_in_exit|apply qk_round_ret|apply qk_round_exit)|((with_reducible apply ws);exact rfl;exact rfl)|((with_reducible apply wl_yes);exact rfl;exact rfl;exact rfl)|((with_reducible apply wl_no);exact rfl;exact rfl;exact rfl;exact rfl)|((with_reducible apply wl_noU);exact rfl;exact rfl;exact rfl)
        exact qk_ret1 rfl rfl ⟨_, rfl, Below.refl _ _, rfl, rfl⟩
      · refine wc_no rfl (by simpa using h5) ?_
        repeat first|(with_reducible first|apply wc_seq|apply wc_region|apply wl_nil|apply qk_thn|apply wc_block|apply wc_skip|apply wc_ret|apply wc_exit|apply qk_thn_ret|apply qk_in_ret|apply qk_in|apply qk_thn_exit|apply qk_in_exit|apply qk_round_ret|apply qk_round_exit)|((with_reducible apply ws);exact rfl;exact rfl)|((with_reducible apply wl_yes);exact rfl;exact rfl;exact rfl)|((with_reducible apply wl_no);exact rfl;exact rfl;exact rfl;exact rfl)|((with_reducible apply wl_noU);exact rfl;exact rfl;exact rfl)
        by_cases h3 : k = 3
        · subst h3
          refine wc_yes rfl (by decide) ?_
          repeat first|(with_reducible first|apply wc_seq|apply wc_region|apply wl_nil|apply qk_thn|apply wc_block|apply wc_skip|apply wc_ret|apply wc_exit|apply qk_thn_ret|apply qk_in_ret|apply qk_in|apply qk_thn_exit|apply qk_in_exit|apply qk_round_ret|apply qk_round_exit)|((with_reducible apply ws);exact rfl;exact rfl)|((with_reducible apply wl_yes);exact rfl;exact rfl;exact rfl)|((with_reducible apply wl_no);exact rfl;exact rfl;exact rfl;exact rfl)|((with_reducible apply wl_noU);exact rfl;exact rfl;exact rfl)
          exact qk_ret1 rfl rfl ⟨_, rfl, Below.refl _ _, rfl, rfl⟩
        · refine wc_no rfl (by simpa using h3) ?_
          repeat first|(with_reducible first|apply wc_seq|apply wc_region|apply wl_nil|apply qk_thn|apply wc_block|apply wc_skip|apply wc_ret|apply wc_exit|apply qk_thn_ret|apply qk_in_ret|apply qk_in|apply qk_thn_exit|apply qk_in_exit|apply qk_round_ret|apply qk_round_exit)|((with_reducible apply ws);exact rfl;exact rfl)|((with_reducible apply wl_yes);exact rfl;exact rfl;exact rfl)|((with_reducible apply wl_no);exact rfl;exact rfl;exact rfl;exact rfl)|((with_reducible apply wl_noU);exact rfl;exact rfl;exact rfl)
          exact qk_ret1 rfl rfl ⟨_, rfl, Below.refl _ _, rfl, by simp [width, h1, h2, h5, h3]⟩

/-- The loop's state: how many octets are still to come, the slice, what it holds. -/
structure FxS where
  k : Nat
  d : Value
  xs : List UInt8
theorem fn_fixed (n : Int) (size : Nat) (hs : size ≤ 8) (w : World) : Fn 129 [.int .i64 n, .int .i64 (size : Int)] w fun v w' => Own w' w.heap.size 5 v (be size n) := by
  refine enter Try.func129 rfl Try.ntmps129 rfl ?_
  repeat first|(with_reducible first|apply wc_seq|apply wc_region|apply wl_nil|apply qk_thn|apply wc_block|apply wc_skip|apply wc_ret|apply wc_exit|apply qk_thn_ret|apply qk_in_ret|apply qk_in|apply qk_thn_exit|apply qk_in_exit|apply qk_round_ret|apply qk_round_exit)|((with_reducible apply ws);exact rfl;exact rfl)|((with_reducible apply wl_yes);exact rfl;exact rfl;exact rfl)|((with_reducible apply wl_no);exact rfl;exact rfl;exact rfl;exact rfl)|((with_reducible apply wl_noU);exact rfl;exact rfl;exact rfl)
  refine wl_sub' rfl rfl rfl (r := (size : Int) - 1) (by rw [IntKind.wrap_i64]; omega) ?_
  repeat first|(with_reducible first|apply wc_seq|apply wc_region|apply wl_nil|apply qk_thn|apply wc_block|apply wc_skip|apply wc_ret|apply wc_exit|apply qk_thn_ret|apply qk_in_ret|apply qk_in|apply qk_thn_exit|apply qk_in_exit|apply qk_round_ret|apply qk_round_exit)|((with_reducible apply ws);exact rfl;exact rfl)|((with_reducible apply wl_yes);exact rfl;exact rfl;exact rfl)|((with_reducible apply wl_no);exact rfl;exact rfl;exact rfl;exact rfl)|((with_reducible apply wl_noU);exact rfl;exact rfl;exact rfl)
  refine wc_loop (α := FxS) (fun x => [(6, .int .i64 ((x.k : Int) - 1)), (5, x.d), (0, .int .i64 n)]) (fun x w' => x.k ≤ size ∧ x.xs ++ be x.k n = be size n ∧ Own w' w.heap.size 5 x.d x.xs ∧ Below w.heap.size w w') (fun x => x.k) ⟨size, .slice none 0 0, []⟩ ⟨rfl, rfl, rfl, trivial⟩ ⟨Nat.le_refl _, rfl, Own.nil _ _ _, Below.refl _ _⟩ ?_
  rintro ⟨k, d, xs⟩ w1 ⟨hk, hx, ho, hb⟩
  simp only [] at hk hx ho
  change WC _ _ _ _ [(6, .int .i64 ((k : Int) - 1)), (5, d), (0, .int .i64 n)] _
  repeat first|(with_reducible first|apply wc_seq|apply wc_region|apply wl_nil|apply qk_thn|apply wc_block|apply wc_skip|apply wc_ret|apply wc_exit|apply qk_thn_ret|apply qk_in_ret|apply qk_in|apply qk_thn_exit|apply qk_in_exit|apply qk_round_ret|apply qk_round_exit)|((with_reducible apply ws);exact rfl;exact rfl)|((with_reducible apply wl_yes);exact rfl;exact rfl;exact rfl)|((with_reducible apply wl_no);exact rfl;exact rfl;exact rfl;exact rfl)|((with_reducible apply wl_noU);exact rfl;exact rfl;exact rfl)
  cases k with
  | zero =>
    refine wc_no rfl (by decide) ?_
    repeat first|(with_reducible first|apply wc_seq|apply wc_region|apply wl_nil|apply qk_thn|apply wc_block|apply wc_skip|apply wc_ret|apply wc_exit|apply qk_thn_ret|apply qk_in_ret|apply qk_in|apply qk_thn_exit|apply qk_in_exit|apply qk_round_ret|apply qk_round_exit)|((with_reducible apply ws);exact rfl;exact rfl)|((with_reducible apply wl_yes);exact rfl;exact rfl;exact rfl)|((with_reducible apply wl_no);exact rfl;exact rfl;exact rfl;exact rfl)|((with_reducible apply wl_noU);exact rfl;exact rfl;exact rfl)
    simp only [be, List.append_nil] at hx
    exact qk_ret1 rfl rfl ⟨_, rfl, hb, hx ▸ ho⟩
  | succ k =>
    refine wc_yes rfl (by simp) ?_
    repeat first|(with_reducible first|apply wc_seq|apply wc_region|apply wl_nil|apply qk_thn|apply wc_block|apply wc_skip|apply wc_ret|apply wc_exit|apply qk_thn_ret|apply qk_in_ret|apply qk_in|apply qk_thn_exit|apply qk_in_exit|apply qk_round_ret|apply qk_round_exit)|((with_reducible apply ws);exact rfl;exact rfl)|((with_reducible apply wl_yes);exact rfl;exact rfl;exact rfl)|((with_reducible apply wl_no);exact rfl;exact rfl;exact rfl;exact rfl)|((with_reducible apply wl_noU);exact rfl;exact rfl;exact rfl)
    refine wl_mul rfl rfl rfl (r := ((8 * k : Nat) : Int)) (by rw [IntKind.wrap_i64]; omega) ?_
    refine wl_shrV rfl rfl rfl (by omega) (r := n / (2 ^ (8 * k) : Nat)) ?_ ?_
    · rw [show min ((8 * k : Nat) : Int).toNat IntKind.i64.bits = 8 * k from by simp [IntKind.bits]; omega, Int.fdiv_eq_ediv_of_nonneg _ (by exact_mod_cast Nat.zero_le _)]
      push_cast; rfl
    refine wl_conv .u8 rfl ti_l64 ti_u8 rfl (wrap_u8 _) ?_
    refine wl_appLit tb_bytes rfl (ys := [lowByte (n / (2 ^ (8 * k) : Nat))]) rfl rfl rfl rfl rfl rfl ho hb.size ?_ (fun d' w2 ho2 hg2 => ?_)
    · have := congrArg List.length hx
      simp only [List.length_append, be_length] at this
      simp only [List.length_cons, List.length_nil, lim]
      omega
    repeat first|(with_reducible first|apply wc_seq|apply wc_region|apply wl_nil|apply qk_thn|apply wc_block|apply wc_skip|apply wc_ret|apply wc_exit|apply qk_thn_ret|apply qk_in_ret|apply qk_in|apply qk_thn_exit|apply qk_in_exit|apply qk_round_ret|apply qk_round_exit)|((with_reducible apply ws);exact rfl;exact rfl)|((with_reducible apply wl_yes);exact rfl;exact rfl;exact rfl)|((with_reducible apply wl_no);exact rfl;exact rfl;exact rfl;exact rfl)|((with_reducible apply wl_noU);exact rfl;exact rfl;exact rfl)
    refine wl_sub' rfl rfl rfl (r := (k : Int) - 1) (by rw [IntKind.wrap_i64]; omega) ?_
    repeat first|(with_reducible first|apply wc_seq|apply wc_region|apply wl_nil|apply qk_thn|apply wc_block|apply wc_skip|apply wc_ret|apply wc_exit|apply qk_thn_ret|apply qk_in_ret|apply qk_in|apply qk_thn_exit|apply qk_in_exit|apply qk_round_ret|apply qk_round_exit)|((with_reducible apply ws);exact rfl;exact rfl)|((with_reducible apply wl_yes);exact rfl;exact rfl;exact rfl)|((with_reducible apply wl_no);exact rfl;exact rfl;exact rfl;exact rfl)|((with_reducible apply wl_noU);exact rfl;exact rfl;exact rfl)
    refine qk_round ⟨k, d', xs ++ [lowByte (n / (2 ^ (8 * k) : Nat))]⟩ ⟨rfl, rfl, rfl, trivial⟩ ⟨by simp only []; omega, ?_, ho2, hb.trans (hg2.below hb.size ho.ge)⟩ (by simp)
    simp only [List.append_assoc]
    rw [← hx]; rfl

theorem uvar_pos (n : Nat) : 1 ≤ (uvar n).length := by rw [uvar]; split <;> simp
theorem uvar_len_le : ∀ (k n : Nat), n < 2 ^ (7 * k) → (uvar n).length ≤ k + 1
  | 0, n, h => by rw [uvar_lt (by simpa using (by omega : n < 128))]; simp
  | k + 1, n, h => by
    by_cases h1 : n < 128
    · rw [uvar_lt h1]; simp
    · rw [uvar_ge (by omega)]
      have := uvar_len_le k (n / 128) (by
        rw [show 7 * (k + 1) = 7 * k + 7 from by omega, Nat.pow_add] at h
        exact Nat.div_lt_of_lt_mul (by rw [Nat.mul_comm]; exact h))
      simp only [List.length_cons]; omega
structure UvS where
  m : Nat
  d : Value
  xs : List UInt8
theorem fn_uvarint (n : Nat) (hn : n < 18446744073709551616) (w : World) : Fn 100 [.int .u64 (n : Int)] w fun v w' => Own w' w.heap.size 5 v (uvar n) := by
  have hlen : (uvar n).length ≤ 11 := uvar_len_le 10 n (Nat.lt_of_lt_of_le hn (by decide))
  refine enter Try.func100 rfl Try.ntmps100 rfl ?_
  repeat first|(with_reducible first|apply wc_seq|apply wc_region|apply wl_nil|apply qk_thn|apply wc_block|apply wc_skip|apply wc_ret|apply wc_exit|apply qk_thn_ret|apply qk_in_ret|apply qk_in|apply qk_thn_exit|apply qk_in_exit|apply qk_round_ret|apply qk_round_exit)|((with_reducible apply ws);exact rfl;exact rfl)|((with_reducible apply wl_yes);exact rfl;exact rfl;exact rfl)|((with_reducible apply wl_no);exact rfl;exact rfl;exact rfl;exact rfl)|((with_reducible apply wl_noU);exact rfl;exact rfl;exact rfl)
  refine wc_loop (α := UvS) (fun x => [(0, .int .u64 (x.m : Int)), (3, x.d)]) (fun x w' => x.m ≤ n ∧ x.xs ++ uvar x.m = uvar n ∧ Own w' w.heap.size 5 x.d x.xs ∧ Below w.heap.size w w') (fun x => x.m) ⟨n, .slice none 0 0, []⟩ ⟨rfl, rfl, trivial⟩ ⟨Nat.le_refl _, rfl, Own.nil _ _ _, Below.refl _ _⟩ ?_
  rintro ⟨m, d, xs⟩ w1 ⟨hm, hx, ho, hb⟩
  simp only [] at hm hx ho
  change WC _ _ _ _ [(0, .int .u64 (m : Int)), (3, d)] _
  have hl := congrArg List.length hx
  simp only [List.length_append] at hl
  have := uvar_pos m
  repeat first|(with_reducible first|apply wc_seq|apply wc_region|apply wl_nil|apply qk_thn|apply wc_block|apply wc_skip|apply wc_ret|apply wc_exit|apply qk_thn_ret|apply qk_in_ret|apply qk_in|apply qk_thn_exit|apply qk_in_exit|apply qk_round_ret|apply qk_round_exit)|((with_reducible apply ws);exact rfl;exact rfl)|((with_reducible apply wl_yes);exact rfl;exact rfl;exact rfl)|((with_reducible apply wl_no);exact rfl;exact rfl;exact rfl;exact rfl)|((with_reducible apply wl_noU);exact rfl;exact rfl;exact rfl)
  by_cases h : m < 128
  · refine wc_no rfl (by simp; omega) ?_
    repeat first|(with_reducible first|apply wc_seq|apply wc_region|apply wl_nil|apply qk_thn|apply wc_block|apply wc_skip|apply wc_ret|apply wc_exit|apply qk_thn_ret|apply qk_in_ret|apply qk_in|apply qk_thn_exit|apply qk_in_exit|apply qk_round_ret|apply qk_round_exit)|((with_reducible apply ws);exact rfl;exact rfl)|((with_reducible apply wl_yes);exact rfl;exact rfl;exact rfl)|((with_reducible apply wl_no);exact rfl;exact rfl;exact rfl;exact rfl)|((with_reducible apply wl_noU);exact rfl;exact rfl;exact rfl)
    refine wl_conv .u8 rfl ti_u64 ti_u8 rfl (r := ((UInt8.ofNat m).toNat : Int)) (by rw [byteNat m (by omega), IntKind.wrap_u8]; omega) ?_
    refine wl_appLit tb_bytes rfl (ys := [UInt8.ofNat m]) rfl rfl rfl rfl rfl rfl ho hb.size (by simp only [List.length_cons, List.length_nil, lim]; omega) (fun d' w2 ho2 hg2 => ?_)
    repeat first|(with_reducible first|apply wc_seq|apply wc_region|apply wl_nil|apply qk_thn|apply wc_block|apply wc_skip|apply wc_ret|apply wc_exit|apply qk_thn_ret|apply qk_in_ret|apply qk_in|apply qk_thn_exit|apply qk_in_exit|apply qk_round_ret|apply qk_round_exit)|((with_reducible apply ws);exact rfl;exact rfl)|((with_reducible apply wl_yes);exact rfl;exact rfl;exact rfl)|((with_reducible apply wl_no);exact rfl;exact rfl;exact rfl;exact rfl)|((with_reducible apply wl_noU);exact rfl;exact rfl;exact rfl)
    rw [uvar_lt h] at hx
    exact qk_ret1 rfl rfl ⟨_, rfl, hb.trans (hg2.below hb.size ho.ge), hx ▸ ho2⟩
  · refine wc_yes rfl (by simp; omega) ?_
    repeat first|(with_reducible first|apply wc_seq|apply wc_region|apply wl_nil|apply qk_thn|apply wc_block|apply wc_skip|apply wc_ret|apply wc_exit|apply qk_thn_ret|apply qk_in_ret|apply qk_in|apply qk_thn_exit|apply qk_in_exit|apply qk_round_ret|apply qk_round_exit)|((with_reducible apply ws);exact rfl;exact rfl)|((with_reducible apply wl_yes);exact rfl;exact rfl;exact rfl)|((with_reducible apply wl_no);exact rfl;exact rfl;exact rfl;exact rfl)|((with_reducible apply wl_noU);exact rfl;exact rfl;exact rfl)
    refine wl_and rfl rfl rfl (and127w m (by omega)) ?_
    refine wl_conv .u8 rfl ti_u64 ti_u8 rfl (r := ((m % 128 : Nat) : Int)) (by rw [IntKind.wrap_u8]; omega) ?_
    refine wl_or rfl rfl rfl (r := ((UInt8.ofNat (m % 128 + 128)).toNat : Int)) (by rw [or128b _ (by omega), byteNat _ (by omega)]) ?_
    refine wl_appLit tb_bytes rfl (ys := [UInt8.ofNat (m % 128 + 128)]) rfl rfl rfl rfl rfl rfl ho hb.size (by simp only [List.length_cons, List.length_nil, lim]; omega) (fun d' w2 ho2 hg2 => ?_)
    repeat first|(with_reducible first|apply wc_seq|apply wc_region|apply wl_nil|apply qk_thn|apply wc_block|apply wc_skip|apply wc_ret|apply wc_exit|apply qk_thn_ret|apply qk_in_ret|apply qk_in|apply qk_thn_exit|apply qk_in_exit|apply qk_round_ret|apply qk_round_exit)|((with_reducible apply ws);exact rfl;exact rfl)|((with_reducible apply wl_yes);exact rfl;exact rfl;exact rfl)|((with_reducible apply wl_no);exact rfl;exact rfl;exact rfl;exact rfl)|((with_reducible apply wl_noU);exact rfl;exact rfl;exact rfl)
    refine wl_shr rfl rfl rfl (r := ((m / 128 : Nat) : Int)) (shr_nat m 7 64 (by omega)) ?_
    repeat first|(with_reducible first|apply wc_seq|apply wc_region|apply wl_nil|apply qk_thn|apply wc_block|apply wc_skip|apply wc_ret|apply wc_exit|apply qk_thn_ret|apply qk_in_ret|apply qk_in|apply qk_thn_exit|apply qk_in_exit|apply qk_round_ret|apply qk_round_exit)|((with_reducible apply ws);exact rfl;exact rfl)|((with_reducible apply wl_yes);exact rfl;exact rfl;exact rfl)|((with_reducible apply wl_no);exact rfl;exact rfl;exact rfl;exact rfl)|((with_reducible apply wl_noU);exact rfl;exact rfl;exact rfl)
    refine qk_round ⟨m / 128, d', xs ++ [UInt8.ofNat (m % 128 + 128)]⟩ ⟨rfl, rfl, trivial⟩ ⟨by simp only []; omega, ?_, ho2, hb.trans (hg2.below hb.size ho.ge)⟩ (by simp only []; omega)
    simp only [List.append_assoc]
    rw [← hx, uvar_ge (n := m) (by omega)]; rfl

theorem fn_counted (flex null : Bool) (n size : Nat) (hn : n < 9223372036854775807) (hs : size ≤ 8) (w : World) :
    Fn 127 [.bool flex, .bool null, .int .i64 (n : Int), .int .i64 (size : Int)] w fun v w' => Own w' w.heap.size 5 v (counted flex null n size) := by
  refine enter Try.func127 rfl Try.ntmps127 rfl ?_
  repeat first|(with_reducible first|apply wc_seq|apply wc_region|apply wl_nil|apply qk_thn|apply wc_block|apply wc_skip|apply wc_ret|apply wc_exit|apply qk_thn_ret|apply qk_in_ret|apply qk_in|apply qk_thn_exit|apply qk_in_exit|apply qk_round_ret|apply qk_round_exit)|((with_reducible apply ws);exact rfl;exact rfl)|((with_reducible apply wl_yes);exact rfl;exact rfl;exact rfl)|((with_reducible apply wl_no);exact rfl;exact rfl;exact rfl;exact rfl)|((with_reducible apply wl_noU);exact rfl;exact rfl;exact rfl)
  cases flex
  · repeat first|(with_reducible first|apply wc_seq|apply wc_region|apply wl_nil|apply qk_thn|apply wc_block|apply wc_skip|apply wc_ret|apply wc_exit|apply qk_thn_ret|apply qk_in_ret|apply qk_in|apply qk_thn_exit|apply qk_in_exit|apply qk_round_ret|apply qk_round_exit)|((with_reducible apply ws);exact rfl;exact rfl)|((with_reducible apply wl_yes);exact rfl;exact rfl;exact rfl)|((with_reducible apply wl_no);exact rfl;exact rfl;exact rfl;exact rfl)|((with_reducible apply wl_noU);exact rfl;exact rfl;exact rfl)
    refine wc_no rfl rfl ?_
    repeat first|(with_reducible first|apply wc_seq|apply wc_region|apply wl_nil|apply qk_thn|apply wc_block|apply wc_skip|apply wc_ret|apply wc_exit|apply qk_thn_ret|apply qk_in_ret|apply qk_in|apply qk_thn_exit|apply qk_in_exit|apply qk_round_ret|apply qk_round_exit)|((with_reducible apply ws);exact rfl;exact rfl)|((with_reducible apply wl_yes);exact rfl;exact rfl;exact rfl)|((with_reducible apply wl_no);exact rfl;exact rfl;exact rfl;exact rfl)|((with_reducible apply wl_noU);exact rfl;exact rfl;exact rfl)
    refine wc_no rfl rfl ?_
    repeat first|(with_reducible first|apply wc_seq|apply wc_region|apply wl_nil|apply qk_thn|apply wc_block|apply wc_skip|apply wc_ret|apply wc_exit|apply qk_thn_ret|apply qk_in_ret|apply qk_in|apply qk_thn_exit|apply qk_in_exit|apply qk_round_ret|apply qk_round_exit)|((with_reducible apply ws);exact rfl;exact rfl)|((with_reducible apply wl_yes);exact rfl;exact rfl;exact rfl)|((with_reducible apply wl_no);exact rfl;exact rfl;exact rfl;exact rfl)|((with_reducible apply wl_noU);exact rfl;exact rfl;exact rfl)
    cases null
    · refine wc_no rfl rfl ?_
      repeat first|(with_reducible first|apply wc_seq|apply wc_region|apply wl_nil|apply qk_thn|apply wc_block|apply wc_skip|apply wc_ret|apply wc_exit|apply qk_thn_ret|apply qk_in_ret|apply qk_in|apply qk_thn_exit|apply qk_in_exit|apply qk_round_ret|apply qk_round_exit)|((with_reducible apply ws);exact rfl;exact rfl)|((with_reducible apply wl_yes);exact rfl;exact rfl;exact rfl)|((with_reducible apply wl_no);exact rfl;exact rfl;exact rfl;exact rfl)|((with_reducible apply wl_noU);exact rfl;exact rfl;exact rfl)
      refine wl_call rfl (by kernel_rfl) rfl ((fn_fixed n size hs w).mono ?_)
      rintro e w' ⟨v, rfl, hb, ho⟩
      refine ⟨v, rfl, ?_⟩
      repeat first|(with_reducible first|apply wc_seq|apply wc_region|apply wl_nil|apply qk_thn|apply wc_block|apply wc_skip|apply wc_ret|apply wc_exit|apply qk_thn_ret|apply qk_in_ret|apply qk_in|apply qk_thn_exit|apply qk_in_exit|apply qk_round_ret|apply qk_round_exit)|((with_reducible apply ws);exact rfl;exact rfl)|((with_reducible apply wl_yes);exact rfl;exact rfl;exact rfl)|((with_reducible apply wl_no);exact rfl;exact rfl;exact rfl;exact rfl)|((with_reducible apply wl_noU);exact rfl;exact rfl;exact rfl)
      exact qk_ret1 rfl rfl ⟨_, rfl, hb, by simpa [counted] using ho⟩
    · refine wc_yes rfl rfl ?_
      repeat first|(with_reducible first|apply wc_seq|apply wc_region|apply wl_nil|apply qk_thn|apply wc_block|apply wc_skip|apply wc_ret|apply wc_exit|apply qk_thn_ret|apply qk_in_ret|apply qk_in|apply qk_thn_exit|apply qk_in_exit|apply qk_round_ret|apply qk_round_exit)|((with_reducible apply ws);exact rfl;exact rfl)|((with_reducible apply wl_yes);exact rfl;exact rfl;exact rfl)|((with_reducible apply wl_no);exact rfl;exact rfl;exact rfl;exact rfl)|((with_reducible apply wl_noU);exact rfl;exact rfl;exact rfl)
      refine wl_call rfl (by kernel_rfl) rfl ((fn_fixed (-1) size hs w).mono ?_)
      rintro e w' ⟨v, rfl, hb, ho⟩
      refine ⟨v, rfl, ?_⟩
      repeat first|(with_reducible first|apply wc_seq|apply wc_region|apply wl_nil|apply qk_thn|apply wc_block|apply wc_skip|apply wc_ret|apply wc_exit|apply qk_thn_ret|apply qk_in_ret|apply qk_in|apply qk_thn_exit|apply qk_in_exit|apply qk_round_ret|apply qk_round_exit)|((with_reducible apply ws);exact rfl;exact rfl)|((with_reducible apply wl_yes);exact rfl;exact rfl;exact rfl)|((with_reducible apply wl_no);exact rfl;exact rfl;exact rfl;exact rfl)|((with_reducible apply wl_noU);exact rfl;exact rfl;exact rfl)
      exact qk_ret1 rfl rfl ⟨_, rfl, hb, by simpa [counted] using ho⟩
  · repeat first|(with_reducible first|apply wc_seq|apply wc_region|apply wl_nil|apply qk_thn|apply wc_block|apply wc_skip|apply wc_ret|apply wc_exit|apply qk_thn_ret|apply qk_in_ret|apply qk_in|apply qk_thn_exit|apply qk_in_exit|apply qk_round_ret|apply qk_round_exit)|((with_reducible apply ws);exact rfl;exact rfl)|((with_reducible apply wl_yes);exact rfl;exact rfl;exact rfl)|((with_reducible apply wl_no);exact rfl;exact rfl;exact rfl;exact rfl)|((with_reducible apply wl_noU);exact rfl;exact rfl;exact rfl)
    cases null
    · refine wc_no rfl rfl ?_
      repeat first|(with_reducible first|apply wc_seq|apply wc_region|apply wl_nil|apply qk_thn|apply wc_block|apply wc_skip|apply wc_ret|apply wc_exit|apply qk_thn_ret|apply qk_in_ret|apply qk_in|apply qk_thn_exit|apply qk_in_exit|apply qk_round_ret|apply qk_round_exit)|((with_reducible apply ws);exact rfl;exact rfl)|((with_reducible apply wl_yes);exact rfl;exact rfl;exact rfl)|((with_reducible apply wl_no);exact rfl;exact rfl;exact rfl;exact rfl)|((with_reducible apply wl_noU);exact rfl;exact rfl;exact rfl)
      refine wc_yes rfl rfl ?_
      repeat first|(with_reducible first|apply wc_seq|apply wc_region|apply wl_nil|apply qk_thn|apply wc_block|apply wc_skip|apply wc_ret|apply wc_exit|apply qk_thn_ret|apply qk_in_ret|apply qk_in|apply qk_thn_exit|apply qk_in_exit|apply qk_round_ret|apply qk_round_exit)|((with_reducible apply ws);exact rfl;exact rfl)|((with_reducible apply wl_yes);exact rfl;exact rfl;exact rfl)|((with_reducible apply wl_no);exact rfl;exact rfl;exact rfl;exact rfl)|((with_reducible apply wl_noU);exact rfl;exact rfl;exact rfl)
      refine wl_conv .u64 rfl ti_i64 ti_u64 rfl (r := (n : Int)) (by rw [IntKind.wrap_u64]; omega) ?_
      refine wl_add rfl rfl rfl (r := ((n + 1 : Nat) : Int)) (by rw [IntKind.wrap_u64]; omega) ?_
      refine wl_call rfl (by kernel_rfl) rfl ((fn_uvarint (n + 1) (by omega) w).mono ?_)
      rintro e w' ⟨v, rfl, hb, ho⟩
      refine ⟨v, rfl, ?_⟩
      repeat first|(with_reducible first|apply wc_seq|apply wc_region|apply wl_nil|apply qk_thn|apply wc_block|apply wc_skip|apply wc_ret|apply wc_exit|apply qk_thn_ret|apply qk_in_ret|apply qk_in|apply qk_thn_exit|apply qk_in_exit|apply qk_round_ret|apply qk_round_exit)|((with_reducible apply ws);exact rfl;exact rfl)|((with_reducible apply wl_yes);exact rfl;exact rfl;exact rfl)|((with_reducible apply wl_no);exact rfl;exact rfl;exact rfl;exact rfl)|((with_reducible apply wl_noU);exact rfl;exact rfl;exact rfl)
      exact qk_ret1 rfl rfl ⟨_, rfl, hb, by simpa [counted] using ho⟩
    · refine wc_yes rfl rfl ?_
      repeat first|(with_reducible first|apply wc_seq|apply wc_region|apply wl_nil|apply qk_thn|apply wc_block|apply wc_skip|apply wc_ret|apply wc_exit|apply qk_thn_ret|apply qk_in_ret|apply qk_in|apply qk_thn_exit|apply qk_in_exit|apply qk_round_ret|apply qk_round_exit)|((with_reducible apply ws);exact rfl;exact rfl)|((with_reducible apply wl_yes);exact rfl;exact rfl;exact rfl)|((with_reducible apply wl_no);exact rfl;exact rfl;exact rfl;exact rfl)|((with_reducible apply wl_noU);exact rfl;exact rfl;exact rfl)
      refine wl_lit tb_bytes rfl (ys := [0]) rfl rfl rfl rfl (fun w1 ho hb => ?_)
      repeat first|(with_reducible first|apply wc_seq|apply wc_region|apply wl_nil|apply qk_thn|apply wc_block|apply wc_skip|apply wc_ret|apply wc_exit|apply qk_thn_ret|apply qk_in_ret|apply qk_in|apply qk_thn_exit|apply qk_in_exit|apply qk_round_ret|apply qk_round_exit)|((with_reducible apply ws);exact rfl;exact rfl)|((with_reducible apply wl_yes);exact rfl;exact rfl;exact rfl)|((with_reducible apply wl_no);exact rfl;exact rfl;exact rfl;exact rfl)|((with_reducible apply wl_noU);exact rfl;exact rfl;exact rfl)
      exact qk_ret1 rfl rfl ⟨_, rfl, hb, by simpa [counted] using ho⟩

theorem fn_version (n most : Nat) (hn : n < 256) (hm : most < 32768) (w : World) : Fn 12 [.int .u8 (n : Int), .int .i64 (most : Int)] w fun v w' => w' = w ∧ v = .int .i64 ((n % (most + 1) : Nat) : Int) := by
  refine enter Try.func12 rfl Try.ntmps12 rfl ?_
  repeat first|(with_reducible first|apply wc_seq|apply wc_region|apply wl_nil|apply qk_thn|apply wc_block|apply wc_skip|apply wc_ret|apply wc_exit|apply qk_thn_ret|apply qk_in_ret|apply qk_in|apply qk_thn_exit|apply qk_in_exit|apply qk_round_ret|apply qk_round_exit)|((with_reducible apply ws);exact rfl;exact rfl)|((with_reducible apply wl_yes);exact rfl;exact rfl;exact rfl)|((with_reducible apply wl_no);exact rfl;exact rfl;exact rfl;exact rfl)|((with_reducible apply wl_noU);exact rfl;exact rfl;exact rfl)
  refine wl_conv .i64 rfl ti_u8 ti_i64 rfl (r := (n : Int)) (by rw [IntKind.wrap_i64]; omega) ?_
  repeat first|(with_reducible first|apply wc_seq|apply wc_region|apply wl_nil|apply qk_thn|apply wc_block|apply wc_skip|apply wc_ret|apply wc_exit|apply qk_thn_ret|apply qk_in_ret|apply qk_in|apply qk_thn_exit|apply qk_in_exit|apply qk_round_ret|apply qk_round_exit)|((with_reducible apply ws);exact rfl;exact rfl)|((with_reducible apply wl_yes);exact rfl;exact rfl;exact rfl)|((with_reducible apply wl_no);exact rfl;exact rfl;exact rfl;exact rfl)|((with_reducible apply wl_noU);exact rfl;exact rfl;exact rfl)
  refine wl_add rfl rfl rfl (r := ((most + 1 : Nat) : Int)) (by rw [IntKind.wrap_i64]; omega) ?_
  refine wl_rem rfl rfl rfl (by omega) (by omega) (r := ((n % (most + 1) : Nat) : Int)) (by push_cast; rfl) ?_
  repeat first|(with_reducible first|apply wc_seq|apply wc_region|apply wl_nil|apply qk_thn|apply wc_block|apply wc_skip|apply wc_ret|apply wc_exit|apply qk_thn_ret|apply qk_in_ret|apply qk_in|apply qk_thn_exit|apply qk_in_exit|apply qk_round_ret|apply qk_round_exit)|((with_reducible apply ws);exact rfl;exact rfl)|((with_reducible apply wl_yes);exact rfl;exact rfl;exact rfl)|((with_reducible apply wl_no);exact rfl;exact rfl;exact rfl;exact rfl)|((with_reducible apply wl_noU);exact rfl;exact rfl;exact rfl)
  exact qk_ret1 rfl rfl ⟨_, rfl, Below.refl _ _, rfl, rfl⟩
end
end Go.Proofs.Ytmihblfjhoblmaa

/- The reference's functions that compare octets, and count tags: what each comes to. -/
namespace Go.Proofs.Ytmihblfjhoblmaa
open Go Go.RowKit

theorem BytesAt.below {w w' : World} {v : Value} {ys : List UInt8} (h : BytesAt w v ys) (hb : Below w.heap.size w w') : BytesAt w' v ys := by
  rcases h with ⟨a, c, rfl, rfl⟩ | ⟨b, off, c, rfl, hc⟩
  · exact .inl ⟨a, c, rfl, rfl⟩
  · exact .inr ⟨b, off, c, rfl, hc.of_block (hb.block b hc.lt)⟩
theorem BytesAt.get {w : World} {v : Value} {ys : List UInt8} (h : BytesAt w v ys) {i : Nat} (hi : i < ys.length) : ∃ b off c, v = .slice (some ⟨b, off, none⟩) ys.length c ∧ w.cell? ⟨b, off + i * 1, none⟩ = some (.int .u8 (ys[i].toNat : Int)) := by
  rcases h with ⟨a, c, rfl, rfl⟩ | ⟨b, off, c, rfl, hc⟩
  · simp at hi
  · refine ⟨b, off, c, rfl, ?_⟩
    rw [Nat.mul_one]
    exact hc.cell (by simp [bv, hi])
theorem take_ne {xs ys : List UInt8} {i : Nat} (hx : i < xs.length) (hy : i < ys.length) (h : xs[i] ≠ ys[i]) : (xs == ys) = false := by
  rw [beq_eq_false_iff_ne]
  rintro rfl
  exact h rfl
theorem u8_ne {a b : UInt8} : ((a.toNat : Int) != (b.toNat : Int)) = (a != b) := by
  rw [Bool.eq_iff_iff]
  simp only [bne_iff_ne, ne_eq]
  rw [Int.ofNat_inj, UInt8.toNat_inj]

section
set_option maxRecDepth 100000
theorem fn_same (va vb : Value) (xs ys : List UInt8) (w : World) (ha : BytesAt w va xs) (hb : BytesAt w vb ys) (hx : xs.length ≤ lim) (hy : ys.length ≤ lim) :
    Fn 13 [va, vb] w fun v _ => v = .bool (xs == ys) := by
  simp only [lim] at hx hy
  obtain ⟨aa, ca, hva⟩ := ha.shape
  obtain ⟨ab, cb, hvb⟩ := hb.shape
  subst hva; subst hvb
  refine enter Try.func13 rfl Try.ntmps13 rfl ?_
  repeat first|(with_reducible first|apply wc_seq|apply wc_region|apply wl_nil|apply qk_thn|apply wc_block|apply wc_skip|apply wc_ret|apply wc_exit|apply qk_thn_ret|apply qk_in_ret|apply qk_in|apply qk_thn_exit|apply qk_in_exit|apply qk_round_ret|apply qk_round_exit)|((with_reducible apply ws);exact rfl;exact rfl)|((with_reducible apply wl_yes);exact rfl;exact rfl;exact rfl)|((with_reducible apply wl_no);exact rfl;exact rfl;exact rfl;exact rfl)|((with_reducible apply wl_noU);exact rfl;exact rfl;exact rfl)
  by_cases hl : xs.length = ys.length
  · refine wc_no rfl (by simp [hl]) ?_
    repeat first|(with_reducible first|apply wc_seq|apply wc_region|apply wl_nil|apply qk_thn|apply wc_block|apply wc_skip|apply wc_ret|apply wc_exit|apply qk_thn_ret|apply qk_in_ret|apply qk_in|apply qk_thn_exit|apply qk_in_exit|apply qk_round_ret|apply qk_round_exit)|((with_reducible apply ws);exact rfl;exact rfl)|((with_reducible apply wl_yes);exact rfl;exact rfl;exact rfl)|((with_reducible apply wl_no);exact rfl;exact rfl;exact rfl;exact rfl)|((with_reducible apply wl_noU);exact rfl;exact rfl;exact rfl)
    refine wc_loop (α := Nat) (fun i => [(13, .int .i64 (i : Int)), (12, .int .i64 (xs.length : Int)), (0, .slice aa xs.length ca), (1, .slice ab ys.length cb)]) (fun i w' => i ≤ xs.length ∧ xs.take i = ys.take i ∧ Below w.heap.size w w') (fun i => xs.length - i) 0 ⟨rfl, rfl, rfl, rfl, trivial⟩ ⟨by omega, rfl, Below.refl _ _⟩ ?_
    rintro i w1 ⟨hi, ht, hw⟩
    repeat first|(with_reducible first|apply wc_seq|apply wc_region|apply wl_nil|apply qk_thn|apply wc_block|apply wc_skip|apply wc_ret|apply wc_exit|apply qk_thn_ret|apply qk_in_ret|apply qk_in|apply qk_thn_exit|apply qk_in_exit|apply qk_round_ret|apply qk_round_exit)|((with_reducible apply ws);exact rfl;exact rfl)|((with_reducible apply wl_yes);exact rfl;exact rfl;exact rfl)|((with_reducible apply wl_no);exact rfl;exact rfl;exact rfl;exact rfl)|((with_reducible apply wl_noU);exact rfl;exact rfl;exact rfl)
    by_cases hlt : i < xs.length
    · refine wc_yes rfl (by simpa using hlt) ?_
      repeat first|(with_reducible first|apply wc_seq|apply wc_region|apply wl_nil|apply qk_thn|apply wc_block|apply wc_skip|apply wc_ret|apply wc_exit|apply qk_thn_ret|apply qk_in_ret|apply qk_in|apply qk_thn_exit|apply qk_in_exit|apply qk_round_ret|apply qk_round_exit)|((with_reducible apply ws);exact rfl;exact rfl)|((with_reducible apply wl_yes);exact rfl;exact rfl;exact rfl)|((with_reducible apply wl_no);exact rfl;exact rfl;exact rfl;exact rfl)|((with_reducible apply wl_noU);exact rfl;exact rfl;exact rfl)
      obtain ⟨b1, o1, c1, hv1, hc1⟩ := (ha.below hw).get hlt
      obtain ⟨b2, o2, c2, hv2, hc2⟩ := (hb.below hw).get (i := i) (by omega)
      simp only [Value.slice.injEq] at hv1 hv2
      obtain ⟨rfl, _, rfl⟩ := hv1
      obtain ⟨rfl, _, rfl⟩ := hv2
      refine wc_par [(0, .slice (some ⟨b1, o1, none⟩) xs.length ca), (1, .int .i64 (i : Int)), (2, .pointer (some ⟨b1, o1 + i * 1, none⟩)), (3, .int .u8 (xs[i].toNat : Int)), (4, .slice (some ⟨b2, o2, none⟩) ys.length cb), (5, .int .i64 (i : Int)), (6, .pointer (some ⟨b2, o2 + i * 1, none⟩)), (7, .int .u8 (ys[i].toNat : Int)), (8, .bool ((xs[i].toNat : Int) != (ys[i].toNat : Int)))] []
        (fun _ w' => Below w.heap.size w w' ∧ w'.cell? ⟨b1, o1 + i * 1, none⟩ = some (.int .u8 (xs[i].toNat : Int)) ∧ w'.cell? ⟨b2, o2 + i * 1, none⟩ = some (.int .u8 (ys[i].toNat : Int)))
        mixed rfl rfl rfl rfl rfl (by show ([0,1,2,3,4,5,6,7,8] : List Nat).Nodup; decide) rfl rfl (by decide) rfl rfl rfl rfl ⟨hw.drew, hc1, hc2⟩ ?_ trivial ?_
      · intro p hp vals w' hC a k
        simp only [List.mem_cons, List.not_mem_nil, or_false] at hp
        rcases hp with rfl | rfl | rfl | rfl | rfl | rfl | rfl | rfl | rfl
        · exact gv rfl rfl (rn_move k rfl)
        · exact gv rfl rfl (rn_move k rfl)
        · exact gv rfl rfl (rn_indexAddr k rfl rfl es_bytes hlt)
        · exact gv rfl rfl (rn_load k rfl to_u8 hC.2.1)
        · exact gv rfl rfl (rn_move k rfl)
        · exact gv rfl rfl (rn_move k rfl)
        · exact gv rfl rfl (rn_indexAddr k rfl rfl es_bytes (by omega))
        · exact gv rfl rfl (rn_load k rfl to_u8 hC.2.2)
        · exact gv rfl rfl (rn_neq k rfl rfl)
      · rintro vals w' hvl ⟨hw', _, _⟩
        refine qk_thn ?_
        by_cases hne : xs[i] = ys[i]
        · refine wc_no rfl (by rw [hne]; simp) ?_
          repeat first|(with_reducible first|apply wc_seq|apply wc_region|apply wl_nil|apply qk_thn|apply wc_block|apply wc_skip|apply wc_ret|apply wc_exit|apply qk_thn_ret|apply qk_in_ret|apply qk_in|apply qk_thn_exit|apply qk_in_exit|apply qk_round_ret|apply qk_round_exit)|((with_reducible apply ws);exact rfl;exact rfl)|((with_reducible apply wl_yes);exact rfl;exact rfl;exact rfl)|((with_reducible apply wl_no);exact rfl;exact rfl;exact rfl;exact rfl)|((with_reducible apply wl_noU);exact rfl;exact rfl;exact rfl)
          refine wl_add rfl rfl rfl (r := ((i + 1 : Nat) : Int)) (by rw [IntKind.wrap_i64]; omega) ?_
          repeat first|(with_reducible first|apply wc_seq|apply wc_region|apply wl_nil|apply qk_thn|apply wc_block|apply wc_skip|apply wc_ret|apply wc_exit|apply qk_thn_ret|apply qk_in_ret|apply qk_in|apply qk_thn_exit|apply qk_in_exit|apply qk_round_ret|apply qk_round_exit)|((with_reducible apply ws);exact rfl;exact rfl)|((with_reducible apply wl_yes);exact rfl;exact rfl;exact rfl)|((with_reducible apply wl_no);exact rfl;exact rfl;exact rfl;exact rfl)|((with_reducible apply wl_noU);exact rfl;exact rfl;exact rfl)
          refine qk_round (i + 1) ⟨rfl, rfl, rfl, rfl, trivial⟩ ⟨by omega, ?_, hw'⟩ (by omega)
          rw [List.take_succ_eq_append_getElem hlt, List.take_succ_eq_append_getElem (by omega), ht, hne]
        · refine wc_yes rfl (by rw [u8_ne]; simpa using hne) ?_
          repeat first|(with_reducible first|apply wc_seq|apply wc_region|apply wl_nil|apply qk_thn|apply wc_block|apply wc_skip|apply wc_ret|apply wc_exit|apply qk_thn_ret|apply qk_in_ret|apply qk_in|apply qk_thn_exit|apply qk_in_exit|apply qk_round_ret|apply qk_round_exit)|((with_reducible apply ws);exact rfl;exact rfl)|((with_reducible apply wl_yes);exact rfl;exact rfl;exact rfl)|((with_reducible apply wl_no);exact rfl;exact rfl;exact rfl;exact rfl)|((with_reducible apply wl_noU);exact rfl;exact rfl;exact rfl)
          exact qk_ret1 rfl rfl ⟨_, rfl, hw', by rw [take_ne hlt (by omega) hne]⟩
    · refine wc_no rfl (by simpa using hlt) ?_
      repeat first|(with_reducible first|apply wc_seq|apply wc_region|apply wl_nil|apply qk_thn|apply wc_block|apply wc_skip|apply wc_ret|apply wc_exit|apply qk_thn_ret|apply qk_in_ret|apply qk_in|apply qk_thn_exit|apply qk_in_exit|apply qk_round_ret|apply qk_round_exit)|((with_reducible apply ws);exact rfl;exact rfl)|((with_reducible apply wl_yes);exact rfl;exact rfl;exact rfl)|((with_reducible apply wl_no);exact rfl;exact rfl;exact rfl;exact rfl)|((with_reducible apply wl_noU);exact rfl;exact rfl;exact rfl)
      refine qk_ret1 rfl rfl ⟨_, rfl, hw, ?_⟩
      rw [List.take_of_length_le (by omega), List.take_of_length_le (by omega)] at ht
      simp [ht]
  · refine wc_yes rfl (by simp; omega) ?_
    repeat first|(with_reducible first|apply wc_seq|apply wc_region|apply wl_nil|apply qk_thn|apply wc_block|apply wc_skip|apply wc_ret|apply wc_exit|apply qk_thn_ret|apply qk_in_ret|apply qk_in|apply qk_thn_exit|apply qk_in_exit|apply qk_round_ret|apply qk_round_exit)|((with_reducible apply ws);exact rfl;exact rfl)|((with_reducible apply wl_yes);exact rfl;exact rfl;exact rfl)|((with_reducible apply wl_no);exact rfl;exact rfl;exact rfl;exact rfl)|((with_reducible apply wl_noU);exact rfl;exact rfl;exact rfl)
    refine qk_ret1 rfl rfl ⟨_, rfl, Below.refl _ _, ?_⟩
    have : (xs == ys) = false := by rw [beq_eq_false_iff_ne]; rintro rfl; exact hl rfl
    rw [this]

theorem known_snoc (fs : List Fld) (f : Fld) : known (fs ++ [f]) = if 0 ≤ f.tag then max (known fs) (f.tag.toNat + 1) else known fs := by simp [known]
theorem known_le {fs : List Fld} (h : ∀ f ∈ fs, f.tag < 2147483647) : known fs < 2147483648 := by
  have : ∀ (fs : List Fld) (m : Nat), m < 2147483648 → (∀ f ∈ fs, f.tag < 2147483647) → fs.foldl (fun n f => if 0 ≤ f.tag then max n (f.tag.toNat + 1) else n) m < 2147483648 := by
    intro fs
    induction fs with
    | nil => intro m hm _; simpa using hm
    | cons f fs ih =>
      intro m hm h
      simp only [List.foldl_cons]
      refine ih _ ?_ (fun g hg => h g (by simp [hg]))
      have := h f (by simp)
      split <;> omega
  exact this fs 0 (by omega) h
theorem fn_known (v : Value) (fs : List Fld) (B : Nat) (w : World) (hB : B ≤ w.heap.size) (h : Sq B w v (fs.map fldD)) (ht : ∀ f ∈ fs, f.tag < 2147483647) (hl : fs.length ≤ 1000000) :
    Fn 96 [v] w fun r _ => r = .int .u32 (known fs : Nat) := by
  obtain ⟨a, c, rfl, _⟩ := h.shape
  simp only [List.length_map] at *
  refine enter Try.func96 rfl Try.ntmps96 rfl ?_
  repeat first|(with_reducible first|apply wc_seq|apply wc_region|apply wl_nil|apply qk_thn|apply wc_block|apply wc_skip|apply wc_ret|apply wc_exit|apply qk_thn_ret|apply qk_in_ret|apply qk_in|apply qk_thn_exit|apply qk_in_exit|apply qk_round_ret|apply qk_round_exit)|((with_reducible apply ws);exact rfl;exact rfl)|((with_reducible apply wl_yes);exact rfl;exact rfl;exact rfl)|((with_reducible apply wl_no);exact rfl;exact rfl;exact rfl;exact rfl)|((with_reducible apply wl_noU);exact rfl;exact rfl;exact rfl)
  refine wc_loop (α := Nat) (fun i => [(8, .int .i64 (i : Int)), (7, .int .i64 (fs.length : Int)), (6, .slice a fs.length c), (3, .int .u32 (known (fs.take i) : Nat))]) (fun i w' => i ≤ fs.length ∧ Below w.heap.size w w') (fun i => fs.length - i) 0 ⟨rfl, rfl, rfl, rfl, trivial⟩ ⟨by omega, Below.refl _ _⟩ ?_
  rintro i w1 ⟨hi, hw⟩
  repeat first|(with_reducible first|apply wc_seq|apply wc_region|apply wl_nil|apply qk_thn|apply wc_block|apply wc_skip|apply wc_ret|apply wc_exit|apply qk_thn_ret|apply qk_in_ret|apply qk_in|apply qk_thn_exit|apply qk_in_exit|apply qk_round_ret|apply qk_round_exit)|((with_reducible apply ws);exact rfl;exact rfl)|((with_reducible apply wl_yes);exact rfl;exact rfl;exact rfl)|((with_reducible apply wl_no);exact rfl;exact rfl;exact rfl;exact rfl)|((with_reducible apply wl_noU);exact rfl;exact rfl;exact rfl)
  by_cases hlt : i < fs.length
  · refine wc_yes rfl (by simpa using hlt) ?_
    obtain ⟨b, off, c', cs, hv, _, hcs, hlen, hr⟩ := (h.below (hw.mono hB) (Nat.le_refl _)).get (sz := 8) (i := i) (by intro d hd; obtain ⟨x, _, rfl⟩ := List.mem_map.1 hd; exact fldD_width x) (by simpa using hlt)
    simp only [Value.slice.injEq, List.length_map] at hv
    obtain ⟨rfl, _, rfl⟩ := hv
    simp only [List.getElem_map] at hr
    obtain ⟨hone, _⟩ := fld_one hr
    have hti := ht fs[i] (by simp)
    have hkl := known_le (fs := fs.take i) (fun f hf => ht f (List.mem_of_mem_take hf))
    have hsn := known_snoc (fs.take i) fs[i]
    rw [← List.take_succ_eq_append_getElem hlt] at hsn
    obtain ⟨sv, hce, _⟩ := fld_cells hr
    subst hce
    repeat first|(with_reducible first|apply wc_seq|apply wc_region|apply wl_nil|apply qk_thn|apply wc_block|apply wc_skip|apply wc_ret|apply wc_exit|apply qk_thn_ret|apply qk_in_ret|apply qk_in|apply qk_thn_exit|apply qk_in_exit|apply qk_round_ret|apply qk_round_exit)|((with_reducible apply ws);exact rfl;exact rfl)|((with_reducible apply wl_yes);exact rfl;exact rfl;exact rfl)|((with_reducible apply wl_no);exact rfl;exact rfl;exact rfl;exact rfl)|((with_reducible apply wl_noU);exact rfl;exact rfl;exact rfl)
    refine wl_indexAddr rfl rfl es_flds rfl hlt ?_
    refine wl_loadAgg (cs := [.int .i64 fs[i].kind, .int .i64 fs[i].fr, .int .i64 fs[i].upto, .int .i64 fs[i].nul, .int .i64 fs[i].tag, .int .i64 fs[i].df, .int .i64 fs[i].of, sv]) rfl ta_fld rfl (fun j v e => hcs.cell e) ?_
    refine wl_alloc zv_fld rfl rfl (fun w2 hb2 hg2 hs2 => ?_)
    refine wl_storeBAgg rfl rfl rfl tz_fld hone hb2 rfl (fun w3 hb3 hg3 hs3 => ?_)
    have hs1 := hw.size
    have hw3 : Below w.heap.size w w3 := (hw.trans (below_of hg2 hs1 (by simp))).trans (below_of hg3 (by omega) (by intro k hk; simp at hk; omega))
    repeat first|(with_reducible first|apply wc_seq|apply wc_region|apply wl_nil|apply qk_thn|apply wc_block|apply wc_skip|apply wc_ret|apply wc_exit|apply qk_thn_ret|apply qk_in_ret|apply qk_in|apply qk_thn_exit|apply qk_in_exit|apply qk_round_ret|apply qk_round_exit)|((with_reducible apply ws);exact rfl;exact rfl)|((with_reducible apply wl_yes);exact rfl;exact rfl;exact rfl)|((with_reducible apply wl_no);exact rfl;exact rfl;exact rfl;exact rfl)|((with_reducible apply wl_noU);exact rfl;exact rfl;exact rfl)
    refine wl_loadB rfl to_int rfl hb3 rfl ?_
    repeat first|(with_reducible first|apply wc_seq|apply wc_region|apply wl_nil|apply qk_thn|apply wc_block|apply wc_skip|apply wc_ret|apply wc_exit|apply qk_thn_ret|apply qk_in_ret|apply qk_in|apply qk_thn_exit|apply qk_in_exit|apply qk_round_ret|apply qk_round_exit)|((with_reducible apply ws);exact rfl;exact rfl)|((with_reducible apply wl_yes);exact rfl;exact rfl;exact rfl)|((with_reducible apply wl_no);exact rfl;exact rfl;exact rfl;exact rfl)|((with_reducible apply wl_noU);exact rfl;exact rfl;exact rfl)
    by_cases htag : 0 ≤ fs[i].tag
    · refine wc_yes rfl (by simpa using htag) ?_
      rw [if_pos htag] at hsn
      repeat first|(with_reducible first|apply wc_seq|apply wc_region|apply wl_nil|apply qk_thn|apply wc_block|apply wc_skip|apply wc_ret|apply wc_exit|apply qk_thn_ret|apply qk_in_ret|apply qk_in|apply qk_thn_exit|apply qk_in_exit|apply qk_round_ret|apply qk_round_exit)|((with_reducible apply ws);exact rfl;exact rfl)|((with_reducible apply wl_yes);exact rfl;exact rfl;exact rfl)|((with_reducible apply wl_no);exact rfl;exact rfl;exact rfl;exact rfl)|((with_reducible apply wl_noU);exact rfl;exact rfl;exact rfl)
      refine wl_loadB rfl to_int rfl hb3 rfl ?_
      refine wl_conv .u32 rfl ti_i64 ti_u32 rfl (r := fs[i].tag) (by rw [IntKind.wrap_u32]; omega) ?_
      refine wl_add rfl rfl rfl (r := fs[i].tag + 1) (by rw [IntKind.wrap_u32]; omega) ?_
      refine wl_max rfl rfl rfl (r := ((known (fs.take (i + 1)) : Nat) : Int)) (by rw [hsn]; split <;> omega) ?_
      repeat first|(with_reducible first|apply wc_seq|apply wc_region|apply wl_nil|apply qk_thn|apply wc_block|apply wc_skip|apply wc_ret|apply wc_exit|apply qk_thn_ret|apply qk_in_ret|apply qk_in|apply qk_thn_exit|apply qk_in_exit|apply qk_round_ret|apply qk_round_exit)|((with_reducible apply ws);exact rfl;exact rfl)|((with_reducible apply wl_yes);exact rfl;exact rfl;exact rfl)|((with_reducible apply wl_no);exact rfl;exact rfl;exact rfl;exact rfl)|((with_reducible apply wl_noU);exact rfl;exact rfl;exact rfl)
      refine wl_add rfl rfl rfl (r := ((i + 1 : Nat) : Int)) (by rw [IntKind.wrap_i64]; omega) ?_
      repeat first|(with_reducible first|apply wc_seq|apply wc_region|apply wl_nil|apply qk_thn|apply wc_block|apply wc_skip|apply wc_ret|apply wc_exit|apply qk_thn_ret|apply qk_in_ret|apply qk_in|apply qk_thn_exit|apply qk_in_exit|apply qk_round_ret|apply qk_round_exit)|((with_reducible apply ws);exact rfl;exact rfl)|((with_reducible apply wl_yes);exact rfl;exact rfl;exact rfl)|((with_reducible apply wl_no);exact rfl;exact rfl;exact rfl;exact rfl)|((with_reducible apply wl_noU);exact rfl;exact rfl;exact rfl)
      exact qk_round (i + 1) ⟨rfl, rfl, rfl, rfl, trivial⟩ ⟨by omega, hw3⟩ (by omega)
    · refine wc_no rfl (by simpa using htag) ?_
      rw [if_neg htag] at hsn
      repeat first|(with_reducible first|apply wc_seq|apply wc_region|apply wl_nil|apply qk_thn|apply wc_block|apply wc_skip|apply wc_ret|apply wc_exit|apply qk_thn_ret|apply qk_in_ret|apply qk_in|apply qk_thn_exit|apply qk_in_exit|apply qk_round_ret|apply qk_round_exit)|((with_reducible apply ws);exact rfl;exact rfl)|((with_reducible apply wl_yes);exact rfl;exact rfl;exact rfl)|((with_reducible apply wl_no);exact rfl;exact rfl;exact rfl;exact rfl)|((with_reducible apply wl_noU);exact rfl;exact rfl;exact rfl)
      refine wl_add rfl rfl rfl (r := ((i + 1 : Nat) : Int)) (by rw [IntKind.wrap_i64]; omega) ?_
      repeat first|(with_reducible first|apply wc_seq|apply wc_region|apply wl_nil|apply qk_thn|apply wc_block|apply wc_skip|apply wc_ret|apply wc_exit|apply qk_thn_ret|apply qk_in_ret|apply qk_in|apply qk_thn_exit|apply qk_in_exit|apply qk_round_ret|apply qk_round_exit)|((with_reducible apply ws);exact rfl;exact rfl)|((with_reducible apply wl_yes);exact rfl;exact rfl;exact rfl)|((with_reducible apply wl_no);exact rfl;exact rfl;exact rfl;exact rfl)|((with_reducible apply wl_noU);exact rfl;exact rfl;exact rfl)
      exact qk_round (i + 1) ⟨rfl, rfl, rfl, by rw [hsn]; rfl, trivial⟩ ⟨by omega, hw3⟩ (by omega)
  · refine wc_no rfl (by simpa using hlt) ?_
    repeat first|(with_reducible first|apply wc_seq|apply wc_region|apply wl_nil|apply qk_thn|apply wc_block|apply wc_skip|apply wc_ret|apply wc_exit|apply qk_thn_ret|apply qk_in_ret|apply qk_in|apply qk_thn_exit|apply qk_in_exit|apply qk_round_ret|apply qk_round_exit)|((with_reducible apply ws);exact rfl;exact rfl)|((with_reducible apply wl_yes);exact rfl;exact rfl;exact rfl)|((with_reducible apply wl_no);exact rfl;exact rfl;exact rfl;exact rfl)|((with_reducible apply wl_noU);exact rfl;exact rfl;exact rfl)
    refine qk_ret1 rfl rfl ⟨_, rfl, hw, ?_⟩
    rw [List.take_of_length_le (by omega)]
end
end Go.Proofs.Ytmihblfjhoblmaa
