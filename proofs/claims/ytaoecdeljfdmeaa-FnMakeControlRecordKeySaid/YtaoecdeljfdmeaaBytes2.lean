/- Bytes, more: appends of texts and of other slices, lengths, what a text's place holds. Over any program. -/
import Derived.Test.YtaoecdeljfdmeaaBytes
namespace Go.Proofs.Ytaoecdeljfdmeaa
open Go Go.RowKit

/-- A slice value that holds bytes. -/
def BytesAt (w : World) (v : Value) (ys : List UInt8) : Prop :=
  (∃ a c, v = .slice a 0 c ∧ ys = []) ∨ ∃ b off c, v = .slice (some ⟨b, off, none⟩) ys.length c ∧ CellsAt w b off (bv ys)
theorem BytesAt.shape {w : World} {v : Value} {ys : List UInt8} (h : BytesAt w v ys) : ∃ a c, v = .slice a ys.length c := by
  rcases h with ⟨a, c, rfl, rfl⟩ | ⟨b, off, c, rfl, _⟩
  · exact ⟨a, c, rfl⟩
  · exact ⟨_, _, rfl⟩
/-- The bytes of a text. -/
def strB (s : ByteArray) : List UInt8 := s.data.toList
theorem strB_len (s : ByteArray) : (strB s).length = s.size := by simp [strB]

section
variable {P : Program} {ops : Array Oper} {Q : Exit → Act → World → Prop} {N : Nat} {rest : List Oper} {L : Sl} {w : World} {d : Nat} {ty : TypeId} {pos : String} {aft : Array Edge}

theorem wl_lenStr {x : Operand} {t : TypeId} {s : ByteArray} (hx : ev L x = some (.string s)) (ht : (match P.underlying t with | some .string => true | _ => false) = true) (hd : Nat.blt d N = true) (h : WL rest P ops Q N ((d, .int .i64 s.size) :: L) w) :
    WL (⟨some d, .call ⟨.builtin .len, #[x], #[t]⟩, ty, pos, aft, none⟩ :: rest) P ops Q N L w := by
  intro a k
  refine st_of (o := ⟨some d, .call ⟨.builtin .len, #[x], #[t]⟩, ty, pos, aft, none⟩) rfl ?_ (h _ (k.put _ hd))
  split at ht
  · rename_i he
    simp [execOp, resolve, invoke, builtin, Builtin.len_, run_underlying he, k.eval hx, goInt]
  · cases ht
theorem wl_appGen {t u u8 B : Nat} {s x : Operand} {dv xv : Value} {xs ys : List UInt8} {tu : TypeDesc}
    (hT : byteSl P t u8 = true) (hu' : P.underlying u = some tu) (htu : (∃ e', tu = .slice e') ∨ tu = .string) (hs : ev L s = some dv) (hx : ev L x = some xv) (hd : Nat.blt d N = true)
    (hown : Own w B u8 dv xs) (hB : B ≤ w.heap.size) (hlim : xs.length + ys.length ≤ lim)
    (hlen : ∀ w' : World, (Builtin.lenOf xv).run P w' = .ok ys.length w') (hfc : ∀ w', (w' = w ∨ w' = w.drew) → (Builtin.firstCells 1 ys.length xv).run P w' = .ok (bv ys).toArray w')
    (h : ∀ d' w', Own w' B u8 d' (xs ++ ys) → Grew w w' dv d' → WL rest P ops Q N ((d, d') :: L) w') :
    WL (⟨some d, .call ⟨.builtin .append, #[s, x], #[t, u]⟩, ty, pos, aft, none⟩ :: rest) P ops Q N L w := by
  intro a k
  obtain ⟨hu, i, z, hi, hs1, hb1, hz, hzc⟩ := byteSl_out hT
  obtain ⟨d', w', hr, ho, hgr⟩ := run_app (P := P) w B t u ty u8 i z tu hu hu' htu hi hz (by rw [hzc, hs1]) dv xs.length (bv xs) (by rw [hs1]; exact hown)
    xv ys.length (bv ys) (by rw [bv_length, hs1, Nat.mul_one]) (bv_one ys) hlen (by rw [hs1]; exact hfc) (by rw [hb1]; simpa using hlim) (by simp only [maxLen, lim] at *; omega) hB
  refine st_of (o := ⟨some d, .call ⟨.builtin .append, #[s, x], #[t, u]⟩, ty, pos, aft, none⟩) (v := d') (w' := w') rfl ?_ (h d' w' ?_ hgr _ (k.put _ hd))
  · simp only [execOp, resolve, List.map_toArray, List.map_cons, List.map_nil, k.eval hs, k.eval hx, Sem.run_bind, Sem.run_pure, Result.andThen_ok, invoke, builtin, hr]
  · rw [hs1] at ho
    unfold Own
    rw [List.length_append, bv_append]; exact ho
theorem wl_appStr {t u u8 B : Nat} {s x : Operand} {dv : Value} {xs : List UInt8} {str : ByteArray}
    (hT : byteSl P t u8 = true) (hu : (match P.underlying u with | some .string => true | _ => false) = true) (hs : ev L s = some dv) (hx : ev L x = some (.string str)) (hd : Nat.blt d N = true)
    (hown : Own w B u8 dv xs) (hB : B ≤ w.heap.size) (hlim : xs.length + (strB str).length ≤ lim)
    (h : ∀ d' w', Own w' B u8 d' (xs ++ strB str) → Grew w w' dv d' → WL rest P ops Q N ((d, d') :: L) w') :
    WL (⟨some d, .call ⟨.builtin .append, #[s, x], #[t, u]⟩, ty, pos, aft, none⟩ :: rest) P ops Q N L w := by
  split at hu
  · rename_i he
    refine wl_appGen hT he (.inr rfl) hs hx hd hown hB hlim (fun w' => by simp [Builtin.lenOf, strB_len]) (fun w' _ => ?_) h
    simp only [Builtin.firstCells, Sem.run_pure]
    congr 1
    rw [strB_len]
    apply Array.ext'
    simp [bv, strB]
  · cases hu
theorem wl_appSl {t u u8 B : Nat} {s x : Operand} {dv xv : Value} {xs ys : List UInt8}
    (hT : byteSl P t u8 = true) (hu : byteSl P u u8 = true) (hs : ev L s = some dv) (hx : ev L x = some xv) (hd : Nat.blt d N = true) (hy : BytesAt w xv ys)
    (hown : Own w B u8 dv xs) (hB : B ≤ w.heap.size) (hlim : xs.length + ys.length ≤ lim)
    (h : ∀ d' w', Own w' B u8 d' (xs ++ ys) → Grew w w' dv d' → WL rest P ops Q N ((d, d') :: L) w') :
    WL (⟨some d, .call ⟨.builtin .append, #[s, x], #[t, u]⟩, ty, pos, aft, none⟩ :: rest) P ops Q N L w := by
  obtain ⟨hu', _⟩ := byteSl_out hu
  rcases hy with ⟨a0, c, rfl, rfl⟩ | ⟨b, off, c, rfl, hc⟩
  · refine wl_appGen hT hu' (.inl ⟨_, rfl⟩) hs hx hd hown hB hlim (fun w' => by simp [Builtin.lenOf]) (fun w' _ => ?_) h
    cases a0 with
    | none => simp [Builtin.firstCells, bv]
    | some a0 => simpa [Builtin.firstCells, bv] using run_loadCells_list (P := P) w' a0 [] (by simp)
  · refine wl_appGen hT hu' (.inl ⟨_, rfl⟩) hs hx hd hown hB hlim (fun w' => by simp [Builtin.lenOf]) (fun w' hw' => ?_) h
    refine run_firstCells_some (P := P) w' 1 ys.length _ _ _ (bv ys) (by rw [bv_length, Nat.mul_one]) (fun j v hv => ?_)
    have h1 := hc.cell hv
    rw [add_plain _ _ rfl]
    rcases hw' with rfl | rfl
    · exact h1
    · exact h1
/-- A letter of a text. -/
theorem wl_index {x y : Operand} {t : TypeId} {s : ByteArray} {kk : IntKind} {m : Int} {i : Nat} {c : UInt8} (hx : ev L x = some (.string s)) (hy : ev L y = some (.int kk m)) (ht : (match P.underlying t with | some .string => true | _ => false) = true) (hd : Nat.blt d N = true)
    (hm : m = (i : Int)) (hc : s.data[i]? = some c) (h : WL rest P ops Q N ((d, .int .u8 c.toNat) :: L) w) :
    WL (⟨some d, .index t x y, ty, pos, aft, none⟩ :: rest) P ops Q N L w := by
  intro a k
  subst hm
  refine st_of (o := ⟨some d, .index t x y, ty, pos, aft, none⟩) rfl ?_ (h _ (k.put _ hd))
  split at ht
  · rename_i he
    have hlt : i < s.size := by have := (Array.getElem?_eq_some_iff.1 hc).1; exact this
    have : s[i]? = some c := by
      rw [getElem?_pos s i hlt]
      obtain ⟨h1, h2⟩ := Array.getElem?_eq_some_iff.1 hc
      rw [← h2]; rfl
    simp [execOp, Instr.index, asIntOf, k.eval hx, k.eval hy, run_underlying he, this]
  · cases ht
/-- A value put into a block of its own. -/
theorem wl_box {x : Operand} {t : TypeId} {v : Value} (hx : ev L x = some v) (hd : Nat.blt d N = true) (h : WL rest P ops Q N ((d, .pointer (some ⟨w.heap.size, 0, none⟩)) :: L) (w.alloc (.cells v.cells t))) :
    WL (⟨some d, .box t x, ty, pos, aft, none⟩ :: rest) P ops Q N L w := by
  intro a k
  refine st_of (o := ⟨some d, .box t x, ty, pos, aft, none⟩) rfl ?_ (h _ (k.put _ hd))
  simp [execOp, k.eval hx, Instr.box, newVar, newRow]
end
end Go.Proofs.Ytaoecdeljfdmeaa
