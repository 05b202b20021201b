/- More operations: a new slice of octets, a copy of octets, the lowest bit. Over any program. -/
import Derived.Test.YtaoecdeljfdmeaaRow
import Derived.Test.YtaoecdeljfdmeaaBits
import Derived.Laws.CopyRow
import Derived.Laws.OwnMore
namespace Go.Proofs.Ytaoecdeljfdmeaa
open Go Go.RowKit

theorem and1 (n : Int) : bits .and .i64 n 1 = n % 2 := by
  have key : bits .and .i64 n 1 = IntKind.i64.wrap ((BitVec.ofInt 64 n &&& BitVec.ofInt 64 1).toNat : Nat) := rfl
  rw [key, IntKind.wrap_i64]
  have h1 : (BitVec.ofInt 64 n &&& BitVec.ofInt 64 1).toNat = (BitVec.ofInt 64 n).toNat % 2 := by
    rw [BitVec.toNat_and]
    show (BitVec.ofInt 64 n).toNat &&& 1 = _
    rw [Nat.and_one_is_mod]
  rw [h1, BitVec.toNat_ofInt]
  omega
theorem wrap_bit (n : Int) : IntKind.u8.wrap (n % 2) = ((lowByte (n % 2)).toNat : Int) := wrap_u8 _

section
variable {P : Program} {ops : Array Oper} {Q : Exit → Act → World → Prop} {N : Nat} {rest : List Oper} {L : Sl} {w : World} {d : Nat} {ty : TypeId} {pos : String} {aft : Array Edge}
/-- A new slice of n noughts. -/
theorem wl_makeB {t u8 B n : Nat} {kl kc : IntKind} (hT : byteSl P t u8 = true) (hz : (P.info? u8).bind (·.zero) = some (.int .u8 0)) (hn : Nat.ble n 1000000 = true) (hd : Nat.blt d N = true) (hB : B ≤ w.heap.size)
    (h : ∀ w', Own w' B u8 (.slice (some ⟨w.heap.size, 0, none⟩) n n) (List.replicate n 0) → w.grownBy w' none → WL rest P ops Q N ((d, .slice (some ⟨w.heap.size, 0, none⟩) n n) :: L) w') :
    WL (⟨some d, .makeSlice t (.const (.int kl (n : Int))) (.const (.int kc (n : Int))), ty, pos, aft, none⟩ :: rest) P ops Q N L w := by
  intro a k
  obtain ⟨hu, i, z, hi, hs1, hb1, hz', hzc⟩ := byteSl_out hT
  have hn' := Nat.le_of_ble_eq_true hn
  obtain ⟨w', hr, ho, hg⟩ := run_makeSlice_full (P := P) (w := w) B t u8 i z 1 hu hi hz' hs1 kl kc n (by omega) (by rw [hb1]; omega) (by simp only [maxLen]; omega) hB
  have hzz : z = .int .u8 0 := by rw [hi] at hz; simp only [Option.bind_some, hz', Option.some.injEq] at hz; exact hz
  subst hzz
  have hc : (madeCells (Value.cells (.int .u8 0)) (n * 1)).toList = bv (List.replicate n 0) := by
    simp only [madeCells, Nat.mul_one, bv, List.map_replicate, Array.toList_map]
    apply List.ext_getElem
    · simp
    · intro j h1 h2; simp [Value.cells, Nat.mod_one]
  rw [hc] at ho
  refine st_of (o := ⟨some d, .makeSlice t (.const (.int kl (n : Int))) (.const (.int kc (n : Int))), ty, pos, aft, none⟩) (w' := w') rfl ?_ (h w' ?_ hg _ (k.put _ hd))
  · simp only [execOp, eval_const, Sem.run_bind, hr, Result.andThen_ok, Sem.run_pure]
  · unfold Own; rw [List.length_replicate]; exact ho
/-- Octets copied to the head of a slice that the call owns. -/
theorem wl_copyB {t u u8 B n g cap : Nat} {x y : Operand} {sv : Value} {xs ys : List UInt8} (hT : byteSl P t u8 = true) (hx : ev L x = some (.slice (some ⟨g, 0, none⟩) n cap)) (hy : ev L y = some sv) (hd : Nat.blt d N = true)
    (hown : Own w B u8 (.slice (some ⟨g, 0, none⟩) n cap) xs) (hlen : xs.length = n) (hsv : BytesAt w sv ys)
    (h : ∀ w', Own w' B u8 (.slice (some ⟨g, 0, none⟩) n cap) (ys.take n ++ xs.drop (min ys.length n)) → w.grownBy w' (some g) → WL rest P ops Q N ((d, .int .i64 ((min ys.length n : Nat) : Int)) :: L) w') :
    WL (⟨some d, .call ⟨.builtin .copy, #[x, y], #[t, u]⟩, ty, pos, aft, none⟩ :: rest) P ops Q N L w := by
  intro a k
  obtain ⟨hu, i, z, hi, hs1, hb1, hz', hzc⟩ := byteSl_out hT
  have hsz : (P.info? u8).map (·.size) = some 1 := by rw [hi]; simp [hs1]
  subst hlen
  rcases hsv with ⟨a0, c, rfl, rfl⟩ | ⟨b, off, c, rfl, hc⟩
  · have hrun := run_copy_none (P := P) w t u ty u8 (some ⟨g, 0, none⟩) a0 xs.length cap 0 c hu hsz (by simp)
    refine st_of (o := ⟨some d, .call ⟨.builtin .copy, #[x, y], #[t, u]⟩, ty, pos, aft, none⟩) (v := .int .i64 ((min ([] : List UInt8).length xs.length : Nat) : Int)) (w' := w) rfl ?_ (h w (by simpa using hown) ⟨rfl, rfl, rfl, Nat.le_refl _, fun _ _ _ => rfl⟩ _ (k.put _ hd))
    simp only [execOp, resolve, List.map_toArray, List.map_cons, List.map_nil, k.eval hx, k.eval hy, Sem.run_bind, Sem.run_pure, Result.andThen_ok, invoke, builtin, hrun]
    simp [goInt]
  · obtain ⟨hxl, ⟨he, h0⟩ | ⟨g', cap', cur, he, hBg, hheap, hle, hcap, hcs, htake⟩⟩ := hown
    · cases he
    · cases he
      have hcl : (bv (ys.take xs.length)).length = Nat.min ys.length xs.length := by rw [bv_length, List.length_take, Nat.min_comm]
      have hm : Nat.min ys.length xs.length ≤ xs.length := Nat.min_le_right _ _
      have hrun := run_copy_row (P := P) w t u ty u8 g 0 xs.length cap ⟨b, off, none⟩ ys.length c cur u8 (bv (ys.take xs.length)) hu hsz hheap hcl
        (fun j v hv => by
          rw [add_plain _ _ rfl]
          refine hc.cell (i := j) ?_
          simp only [bv, List.map_take] at hv
          rw [List.getElem?_take] at hv
          split at hv
          · exact hv
          · cases hv) (by rw [hcl]; rw [Nat.mul_one] at hcs; omega) (bv_one _)
      refine st_of (o := ⟨some d, .call ⟨.builtin .copy, #[x, y], #[t, u]⟩, ty, pos, aft, none⟩) (v := .int .i64 ((min ys.length xs.length : Nat) : Int)) (w' := w.setRow g (cur.toList.take 0 ++ bv (ys.take xs.length) ++ cur.toList.drop (0 + (bv (ys.take xs.length)).length)).toArray) rfl ?_ (h _ ?_ ?_ _ (k.put _ hd))
      · simp only [execOp, resolve, List.map_toArray, List.map_cons, List.map_nil, k.eval hx, k.eval hy, Sem.run_bind, Sem.run_pure, Result.andThen_ok, invoke, builtin, hrun]
        simp [goInt, hcl]
      · rw [Nat.mul_one] at hcs
        have hxx : (ys.take xs.length ++ xs.drop (min ys.length xs.length)).length = xs.length := by simp only [List.length_append, List.length_take, List.length_drop]; omega
        refine ⟨by rw [bv_length]; omega, .inr ⟨g, cap, _, by rw [hxx], hBg, setRow_heap w g cur _ u8 _ hheap, by rw [hxx]; exact hle, hcap, ?_, ?_⟩⟩
        · simp only [List.size_toArray, List.length_append, List.length_take, List.length_drop, Array.length_toList, hcl, hcs]; omega
        · have hl : cur.toList.length = cap := by simp [hcs]
          rw [hxx, bv_append]
          simp only [Nat.mul_one] at htake
          simp only [List.take_zero, List.nil_append, Nat.zero_add, hcl, Nat.mul_one]
          rw [List.take_append, List.take_of_length_le (by rw [hcl]; exact hm)]
          congr 1
          rw [hcl]
          have : bv (xs.drop (min ys.length xs.length)) = (bv xs).drop (min ys.length xs.length) := by simp [bv]
          rw [this, ← htake, List.drop_take]
      · exact ⟨rfl, rfl, rfl, by simp, fun k' _ hk => setRow_other w g k' _ (fun e' => hk (by rw [e']))⟩
end
end Go.Proofs.Ytaoecdeljfdmeaa
