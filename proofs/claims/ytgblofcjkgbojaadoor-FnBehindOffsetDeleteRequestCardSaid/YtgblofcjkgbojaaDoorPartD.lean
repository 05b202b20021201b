/- A part of the proof of FnBehindOffsetDeleteRequestCardSaid: what its texts prove stands at the head of each. Conditions: those that each theorem names. -/
import Derived.Test.YtgblofcjkgbojaaDoorPartC
import Derived.Carry
import Derived.Test.YtgblofcjkgbojaaDoorPartB
import Derived.Test.YtgblofcjkgbojaaDoorPartA
import Derived.Deep.QuietTactic
import Derived.Sort.LotA
import Derived.Maps.RangeRun
set_option linter.all false
/- Tags as a map, and the map's writing. Over any program. -/
namespace Go.Proofs.YtgblofcjkgbojaaDoor
open Go Go.RowKit

theorem repKs_iff {ok : Nat → Prop} {w : World} {es : Array MapEntry} : ∀ (kvs : List (Nat × D)), RepKs ok w es kvs ↔ ∀ kv ∈ kvs, ∃ e ∈ es, e.key = .int .u32 kv.1 ∧ Rep ok w kv.2 [e.val]
  | [] => by simp [RepKs]
  | kv :: kvs => by simp only [RepKs, repKs_iff kvs, List.mem_cons, forall_eq_or_imp]
theorem mem_setTag {k : Nat} {v : List UInt8} : ∀ {u : List (Nat × List UInt8)}, Rising u → ∀ {kv : Nat × List UInt8}, kv ∈ setTag k v u ↔ kv = (k, v) ∨ (kv ∈ u ∧ kv.1 ≠ k)
  | [], _, kv => by simp [setTag]
  | x :: u, h, kv => by
    have hx := List.pairwise_cons.1 h
    simp only [setTag]
    split
    · rename_i hlt
      simp only [List.mem_cons, mem_setTag hx.2]
      constructor
      · rintro (rfl | rfl | ⟨h1, h2⟩)
        · exact .inr ⟨.inl rfl, by omega⟩
        · exact .inl rfl
        · exact .inr ⟨.inr h1, h2⟩
      · rintro (rfl | ⟨rfl | h1, h2⟩)
        · exact .inr (.inl rfl)
        · exact .inl rfl
        · exact .inr (.inr ⟨h1, h2⟩)
    · split
      · rename_i h1 h2
        simp only [List.mem_cons]
        constructor
        · rintro (rfl | h3)
          · exact .inl rfl
          · exact .inr ⟨.inr h3, by have := hx.1 kv h3; omega⟩
        · rintro (rfl | ⟨rfl | h3, h4⟩)
          · exact .inl rfl
          · exact absurd h2 h4
          · exact .inr h3
      · rename_i h1 h2
        simp only [List.mem_cons]
        constructor
        · rintro (rfl | rfl | h3)
          · exact .inl rfl
          · exact .inr ⟨.inl rfl, h2⟩
          · exact .inr ⟨.inr h3, by have := hx.1 kv h3; omega⟩
        · rintro (rfl | ⟨rfl | h3, _⟩)
          · exact .inl rfl
          · exact .inr (.inl rfl)
          · exact .inr (.inr h3)
theorem setTag_rising {k : Nat} {v : List UInt8} : ∀ {u : List (Nat × List UInt8)}, Rising u → Rising (setTag k v u)
  | [], _ => by simp [setTag, Rising]
  | x :: u, h => by
    have hx := List.pairwise_cons.1 h
    simp only [setTag]
    split
    · rename_i hlt
      refine List.pairwise_cons.2 ⟨fun y hy => ?_, setTag_rising hx.2⟩
      rcases (mem_setTag hx.2).1 hy with rfl | ⟨h1, _⟩
      · exact hlt
      · exact hx.1 y h1
    · split
      · rename_i h1 h2
        exact List.pairwise_cons.2 ⟨fun y hy => by have := hx.1 y hy; show k < _; omega, hx.2⟩
      · rename_i h1 h2
        refine List.pairwise_cons.2 ⟨fun y hy => ?_, h⟩
        rcases List.mem_cons.1 hy with rfl | hm
        · show k < _; omega
        · have := hx.1 y hm; show k < _; omega
theorem setTag_length {k : Nat} {v : List UInt8} : ∀ {u : List (Nat × List UInt8)}, Rising u → (setTag k v u).length = if k ∈ u.map (·.1) then u.length else u.length + 1
  | [], _ => by simp [setTag]
  | x :: u, h => by
    have hx := List.pairwise_cons.1 h
    have ih := setTag_length (k := k) (v := v) hx.2
    simp only [setTag]
    split
    · rename_i hlt
      simp only [List.length_cons, ih, List.map_cons, List.mem_cons]
      have : (k = x.1 ∨ k ∈ u.map (·.1)) ↔ k ∈ u.map (·.1) := by
        constructor
        · rintro (h | h)
          · omega
          · exact h
        · exact .inr
      simp only [this]
      split <;> rfl
    · split
      · rename_i h1 h2
        rw [if_pos (by simp [h2])]; simp
      · rename_i h1 h2
        rw [if_neg ?_]
        · simp
        · simp only [List.map_cons, List.mem_cons, List.mem_map, not_or, not_exists, not_and]
          refine ⟨fun e => h2 e.symm, fun y hy e => ?_⟩
          have := hx.1 y hy
          omega
section
variable {P : Program} {w : World} {mty kt et : TypeId} {r clock : Nat} {es : Array MapEntry} {ks : List Nat}
theorem run_mapUpd (hm : P.underlying mty = some (.map kt et)) (hd : P.underlying kt = some (.int .u32)) (hb : w.heap[r]? = some (.map es clock)) (hmap : Mapped es clock ks) (hin : ∀ k ∈ ks, ∃ e ∈ es, e.key = .int .u32 k) (key : Nat) (val : Value) :
    ∃ w' es' clock', (Instr.mapUpdate mty (.map (some r)) (.int .u32 key) val).run P w = .ok () w' ∧ w'.heap[r]? = some (.map es' clock') ∧ Chg (· = r) w w' ∧ w'.heap.size = w.heap.size ∧ MapKept.Stamped es' clock' ∧
      ((key ∉ ks ∧ es' = es.push { key := .int .u32 key, val := val, born := clock }) ∨ (key ∈ ks ∧ ∃ j e, es[j]? = some e ∧ e.key = .int .u32 key ∧ es' = es.modify j fun e => { e with key := .int .u32 key, val := val })) := by
  obtain ⟨h1, h2, h3, _⟩ := hmap
  have hk : MapKept.IsKey (.int .u32) (.int .u32 (key : Int)) := rfl
  have hks : ∀ x ∈ es.toList, MapKept.IsKey (.int .u32) x.key := fun x hx => by
    obtain ⟨k, _, e⟩ := h3 x hx
    rw [e]; rfl
  have chg : ∀ o, Chg (· = r) w { w with heap := w.heap.setIfInBounds r o } := fun o => ⟨rfl, rfl, rfl, by simp, fun k _ hne => (MapKept.heap_set hb).2 k hne⟩
  rcases MapKept.findNow_spec hk es.toList 0 hks with ⟨g1, g2⟩ | ⟨j, e, g1, g2, g3⟩
  · refine ⟨_, es.push { key := .int .u32 key, val := val, born := clock }, clock + 1, ?_, (MapKept.heap_set hb).1, chg _, by simp, MapKept.stamped_push h2 g2, .inl ⟨fun hin' => ?_, rfl⟩⟩
    · simp [Instr.mapUpdate, run_underlying hm, MapKept.run_getObj_map hb, MapKept.run_checkKey hd hk, MapKept.run_findKey hd g1, MapKept.run_setObj_map _ hb, Result.andThen]
    · obtain ⟨x, hx, e⟩ := hin key hin'
      exact g2 x (Array.mem_toList_iff.2 hx) e
  · have hj : es[j]? = some e := by simpa using g2
    refine ⟨_, es.modify j fun e => { e with key := .int .u32 key, val := val }, clock, ?_, (MapKept.heap_set hb).1, chg _, by simp, ?_, .inr ⟨?_, j, e, hj, g3, rfl⟩⟩
    · simp [Instr.mapUpdate, run_underlying hm, MapKept.run_getObj_map hb, MapKept.run_checkKey hd hk, MapKept.run_findKey hd g1, hj, g3, MapKept.run_keyThatStays hk, MapKept.run_setObj_map _ hb, Result.andThen]
    · exact MapKept.stamped_modify h2 _ _ (fun _ _ => rfl) (fun e' _ he' => by rw [hj] at he'; cases he'; exact g3.symm)
    · obtain ⟨k, hk', e'⟩ := h3 e (Array.mem_toList_iff.2 (Array.mem_of_getElem? hj))
      rw [g3] at e'
      simp only [Value.int.injEq, true_and] at e'
      have : key = k := by omega
      rw [this]; exact hk'
/-- Tags in a map's block; their octets lie in the block sb. -/
structure TagMap (w : World) (sb r : Nat) (u : List (Nat × List UInt8)) : Prop where
  at_ : ∃ es clock, w.heap[r]? = some (.map es clock) ∧ Mapped es clock (u.map (·.1)) ∧ RepKs (fun b => b = sb) w es (u.map fun kv => (kv.1, bytesD kv.2))
  up : Rising u
theorem TagMap.keep {w w' : World} {S : Nat → Prop} {sb r : Nat} {u : List (Nat × List UInt8)} (h : TagMap w sb r u) (hc : Chg S w w') (hr : ¬ S r) (hs : ¬ S sb) (hsb : sb < w.heap.size) : TagMap w' sb r u := by
  obtain ⟨⟨es, clock, hb, hm, hk⟩, hu⟩ := h
  have hlt : r < w.heap.size := (Array.getElem?_eq_some_iff.1 hb).1
  exact ⟨⟨es, clock, (hc.block r hlt hr).trans hb, hm, RepKs.mono (fun b hb => ⟨hb, by subst hb; exact hc.block b hsb hs⟩) es _ hk⟩, hu⟩
theorem src_rep {w : World} {sb : Nat} {v : Value} {s : List UInt8} (h : SrcV w sb v s) : Rep (fun b => b = sb) w (bytesD s) [v] := by
  simp only [bytesD, Rep, List.length_map]
  rcases h with ⟨rfl, rfl⟩ | ⟨o, c, rfl, hle, hcs⟩
  · exact ⟨none, 0, rfl, Nat.le_refl _, .inl rfl⟩
  · exact ⟨_, c, rfl, hle, .inr ⟨sb, o, bv s, rfl, rfl, hcs, (reps_bytes s _).2 rfl⟩⟩
theorem run_tagSet (hm : P.underlying mty = some (.map kt et)) (hd : P.underlying kt = some (.int .u32)) {sb : Nat} {u : List (Nat × List UInt8)} (h : TagMap w sb r u) (hne : r ≠ sb) (hsb : sb < w.heap.size) (key : Nat) {val : Value} {s : List UInt8} (hv : SrcV w sb val s) :
    ∃ w', (Instr.mapUpdate mty (.map (some r)) (.int .u32 key) val).run P w = .ok () w' ∧ Chg (· = r) w w' ∧ w'.heap.size = w.heap.size ∧ TagMap w' sb r (setTag key s u) := by
  obtain ⟨⟨es, clock, hb, hmap, hk⟩, hu⟩ := h
  rw [repKs_iff] at hk
  have hk' : ∀ kv ∈ u, ∃ e ∈ es, e.key = .int .u32 kv.1 ∧ Rep (fun b => b = sb) w (bytesD kv.2) [e.val] := fun kv hkv => hk (kv.1, bytesD kv.2) (List.mem_map.2 ⟨kv, hkv, rfl⟩)
  obtain ⟨w', es', clock', hrun, hb', hc, hsz, hst, hcase⟩ := run_mapUpd hm hd hb hmap (fun k hk0 => by
    obtain ⟨kv, hkv, rfl⟩ := List.mem_map.1 hk0
    obtain ⟨e, he, h1, _⟩ := hk' kv hkv
    exact ⟨e, he, h1⟩) key val
  have keep : ∀ {d : D} {cs : List Value}, Rep (fun b => b = sb) w d cs → Rep (fun b => b = sb) w' d cs := fun hr => Rep.mono (fun b hb => ⟨hb, by subst hb; exact hc.block b hsb (fun e => hne e.symm)⟩) _ _ hr
  have hnew : Rep (fun b => b = sb) w' (bytesD s) [val] := keep (src_rep hv)
  have hlen := setTag_length (k := key) (v := s) hu
  refine ⟨w', hrun, hc, hsz, ⟨⟨es', clock', hb', ⟨?_, hst, ?_, List.pairwise_map.2 (setTag_rising hu)⟩, ?_⟩, setTag_rising hu⟩⟩
  · rw [List.length_map, hlen]
    rcases hcase with ⟨hni, rfl⟩ | ⟨hin, j, e, _, _, rfl⟩
    · rw [if_neg hni, Array.size_push, hmap.1, List.length_map]
    · rw [if_pos hin, Array.size_modify, hmap.1, List.length_map]
  · intro e he
    rcases hcase with ⟨hni, rfl⟩ | ⟨hin, j, e0, hj, hj2, rfl⟩
    · simp only [Array.toList_push, List.mem_append, List.mem_singleton] at he
      rcases he with he | rfl
      · obtain ⟨k, hk0, e1⟩ := hmap.2.2.1 e he
        obtain ⟨kv, hkv, rfl⟩ := List.mem_map.1 hk0
        refine ⟨kv.1, List.mem_map.2 ⟨kv, (mem_setTag hu).2 (.inr ⟨hkv, fun e2 => hni (by rw [← e2]; exact hk0)⟩), rfl⟩, e1⟩
      · exact ⟨key, List.mem_map.2 ⟨(key, s), (mem_setTag hu).2 (.inl rfl), rfl⟩, rfl⟩
    · have hkeys := MapKept.modify_keys (es := es) j (fun e => { e with key := .int .u32 key, val := val }) (fun e' he' => by rw [hj] at he'; cases he'; exact hj2.symm)
      have : e.key ∈ (es.modify j fun e => { e with key := .int .u32 key, val := val }).toList.map (·.key) := List.mem_map.2 ⟨e, he, rfl⟩
      rw [hkeys] at this
      obtain ⟨y, hy, e1⟩ := List.mem_map.1 this
      obtain ⟨k, hk0, e2⟩ := hmap.2.2.1 y hy
      obtain ⟨kv, hkv, rfl⟩ := List.mem_map.1 hk0
      by_cases hkk : kv.1 = key
      · exact ⟨key, List.mem_map.2 ⟨(key, s), (mem_setTag hu).2 (.inl rfl), rfl⟩, by rw [← e1, e2, hkk]⟩
      · exact ⟨kv.1, List.mem_map.2 ⟨kv, (mem_setTag hu).2 (.inr ⟨hkv, hkk⟩), rfl⟩, by rw [← e1, e2]⟩
  · rw [repKs_iff]
    intro kvd hkvd
    obtain ⟨kv, hkv, rfl⟩ := List.mem_map.1 hkvd
    rcases (mem_setTag hu).1 hkv with rfl | ⟨hold, hkne⟩
    · rcases hcase with ⟨hni, rfl⟩ | ⟨hin, j, e0, hj, hj2, rfl⟩
      · exact ⟨_, Array.mem_push_self, rfl, hnew⟩
      · refine ⟨{ e0 with key := .int .u32 key, val := val }, ?_, rfl, hnew⟩
        have hlt := (Array.getElem?_eq_some_iff.1 hj).1
        refine Array.mem_of_getElem? (i := j) ?_
        rw [Array.getElem?_modify, if_pos rfl, hj]; rfl
    · obtain ⟨e, he, h1, h2⟩ := hk' kv hold
      rcases hcase with ⟨hni, rfl⟩ | ⟨hin, j, e0, hj, hj2, rfl⟩
      · exact ⟨e, Array.mem_push_of_mem _ he, h1, keep h2⟩
      · obtain ⟨i, hi⟩ := Array.mem_iff_getElem?.1 he
        have hij : j ≠ i := by
          rintro rfl
          rw [hj] at hi
          simp only [Option.some.injEq] at hi
          subst hi
          rw [hj2] at h1
          simp only [Value.int.injEq, true_and] at h1
          exact hkne (by omega)
        refine ⟨e, Array.mem_of_getElem? (i := i) ?_, h1, keep h2⟩
        rw [Array.getElem?_modify, if_neg hij]; exact hi
/-- A map with no entry yet. -/
theorem tagMap_new (w : World) (sb : Nat) : TagMap (w.alloc (.map #[] 0)) sb w.heap.size [] := ⟨⟨#[], 0, heap_alloc_new w _, ⟨rfl, MapKept.stamped_empty 0, by simp, by simp⟩, by simp [RepKs]⟩, by simp [Rising]⟩
theorem TagMap.rep {w : World} {sb r lo : Nat} {u : List (Nat × List UInt8)} (h : TagMap w sb r u) (hr : lo ≤ r) (hsb : sb < w.heap.size) : Rep (Dk sb lo w) w (tagsK u) [.map (some r)] := by
  obtain ⟨⟨es, clock, hb, hm, hk⟩, hu⟩ := h
  have hlt : r < w.heap.size := (Array.getElem?_eq_some_iff.1 hb).1
  simp only [tagsK, Rep]
  refine .inr ⟨r, es, clock, rfl, ⟨.inr hr, hlt⟩, hb, ?_, RepKs.mono (fun b hb => ⟨by subst hb; exact ⟨.inl rfl, hsb⟩, rfl⟩) es _ hk⟩
  rw [List.map_map]
  exact hm
end
end Go.Proofs.YtgblofcjkgbojaaDoor

/- Tags.Set, internalReadTags at the seat. -/
namespace Go.Proofs.YtgblofcjkgbojaaDoor.Rdk
open Go Go.RowKit

set_option maxRecDepth 100000
section
variable {P : Program} {ops : Array Oper} {Q : Exit → Act → World → Prop} {N : Nat} {rest : List Oper} {L : Sl} {w : World} {d : Nat} {ty : TypeId} {pos : String} {aft : Array Edge}
theorem wl_mapNil {x : Operand} {t u : TypeId} {m : Option Nat} (hx : ev L x = some (.map m)) (ht : (match P.underlying t with | some (.map _ _) => true | _ => false) = true) (hd : Nat.blt d N = true) (h : WL rest P ops Q N ((d, .bool m.isNone) :: L) w) :
    WL (⟨some d, .binOp .eql t x (.const (.map none)) u, ty, pos, aft, none⟩ :: rest) P ops Q N L w := by
  intro a k
  split at ht
  · rename_i kt et hu
    refine st_of (o := ⟨some d, .binOp .eql t x (.const (.map none)) u, ty, pos, aft, none⟩) (v := .bool m.isNone) (w' := w) rfl ?_ (h _ (k.put _ hd))
    simp only [execOp, k.eval hx, eval_const]
    have h : ∀ d : Nat, (Op.equalIn (d + 1) t (.map m) (.map none)).run P w = .ok m.isNone w := fun d => by
      cases m <;> simp [Op.equalIn, run_underlying hu]
    simp only [eqGuard, binOp]
    simp [Op.equal, Op.maxDepth, h 9999]
  · cases ht
theorem wl_makeMap {t : TypeId} (hd : Nat.blt d N = true) (h : WL rest P ops Q N ((d, .map (some w.heap.size)) :: L) (w.alloc (.map #[] 0))) : WL (⟨some d, .makeMap t none, ty, pos, aft, none⟩ :: rest) P ops Q N L w := by
  intro a k
  refine st_of (o := ⟨some d, .makeMap t none, ty, pos, aft, none⟩) (v := .map (some w.heap.size)) rfl ?_ (h _ (k.put _ hd))
  simp [execOp, run_makeMap]
theorem wl_mapUpd {x y z : Operand} {t : TypeId} {m kk v : Value} {w' : World} (hx : ev L x = some m) (hy : ev L y = some kk) (hz : ev L z = some v) (hr : (Instr.mapUpdate t m kk v).run P w = .ok () w') (h : WL rest P ops Q N L w') :
    WL (⟨none, .mapUpdate t x y z, ty, pos, aft, none⟩ :: rest) P ops Q N L w := by
  intro a k
  refine st_of_skip (o := ⟨none, .mapUpdate t x y z, ty, pos, aft, none⟩) (w' := w') rfl ?_ (h _ k)
  simp [execOp, k.eval hx, k.eval hy, k.eval hz, hr]
end
theorem uk : Tryd.prog.underlying 53 = some (.int .u32) := by kernel_rfl
/-- What a Tags' cell says. -/
def TagsAt (w : World) (sb lo : Nat) (m : Value) (u : List (Nat × List UInt8)) : Prop := (m = .map none ∧ u = []) ∨ ∃ r, m = .map (some r) ∧ lo ≤ r ∧ TagMap w sb r u
theorem TagsAt.keep {w w' : World} {S : Nat → Prop} {sb lo : Nat} {m : Value} {u : List (Nat × List UInt8)} (h : TagsAt w sb lo m u) (hc : Chg S w w') (hr : ∀ r, lo ≤ r → r < w.heap.size → ¬ S r) (hs : ¬ S sb) (hsb : sb < w.heap.size) : TagsAt w' sb lo m u := by
  rcases h with h | ⟨r, rfl, hlo, ht⟩
  · exact .inl h
  · have hlt : r < w.heap.size := by
      obtain ⟨⟨es, clock, hb, _⟩, _⟩ := ht
      exact (Array.getElem?_eq_some_iff.1 hb).1
    exact .inr ⟨r, rfl, hlo, ht.keep hc (hr r hlo hlt) hs hsb⟩
end Go.Proofs.YtgblofcjkgbojaaDoor.Rdk

/- Tags.Len at the seat. -/
namespace Go.Proofs.YtgblofcjkgbojaaDoor.Rdk
open Go Go.RowKit

theorem run_lenMap {P : Program} {t ty kt et : TypeId} (w : World) (m : Option Nat) (n : Nat) (h : P.underlying t = some (.map kt et)) (hm : (m = none ∧ n = 0) ∨ ∃ r es clock, m = some r ∧ w.heap[r]? = some (.map es clock) ∧ es.size = n) :
    (Builtin.len_ #[t] ty #[.map m]).run P w = .ok (.int .i64 (n : Int)) w := by
  rcases hm with ⟨rfl, rfl⟩ | ⟨r, es, clock, rfl, hb, rfl⟩
  · simp [Builtin.len_, run_underlying h, goInt]
  · simp [Builtin.len_, run_underlying h, MapKept.run_getObj_map hb, goInt]
theorem mp_len {ok : Nat → Prop} {w : World} {kvs : List (Nat × D)} {v : Value} (h : Rep ok w (.mp kvs) [v]) : ∃ m, v = .map m ∧ ((m = none ∧ kvs.length = 0) ∨ ∃ r es clock, m = some r ∧ w.heap[r]? = some (.map es clock) ∧ es.size = kvs.length) := by
  simp only [Rep] at h
  rcases h with ⟨e, rfl⟩ | ⟨r, es, clock, e, _, hb, hm, _⟩
  · simp only [List.cons.injEq, and_true] at e
    exact ⟨none, e, .inl ⟨rfl, rfl⟩⟩
  · simp only [List.cons.injEq, and_true] at e
    exact ⟨some r, e, .inr ⟨r, es, clock, rfl, hb, by rw [hm.1, List.length_map]⟩⟩
section
variable {P : Program} {ops : Array Oper} {Q : Exit → Act → World → Prop} {N : Nat} {rest : List Oper} {L : Sl} {w : World} {d : Nat} {ty : TypeId} {pos : String} {aft : Array Edge}
theorem wl_lenMap {x : Operand} {t kt et : TypeId} {m : Option Nat} {n : Nat} (hx : ev L x = some (.map m)) (hu : P.underlying t = some (.map kt et)) (hm : (m = none ∧ n = 0) ∨ ∃ r es clock, m = some r ∧ w.heap[r]? = some (.map es clock) ∧ es.size = n) (hd : Nat.blt d N = true)
    (h : WL rest P ops Q N ((d, .int .i64 (n : Int)) :: L) w) : WL (⟨some d, .call ⟨.builtin .len, #[x], #[t]⟩, ty, pos, aft, none⟩ :: rest) P ops Q N L w := by
  intro a k
  refine st_of (o := ⟨some d, .call ⟨.builtin .len, #[x], #[t]⟩, ty, pos, aft, none⟩) rfl ?_ (h _ (k.put _ hd))
  simp [execOp, resolve, k.eval hx, invoke, builtin, run_lenMap w m n hu hm]
end
end Go.Proofs.YtgblofcjkgbojaaDoor.Rdk

/- The library's sort.Slice at the seat, on a row of 32-bit numbers that the call owns. -/
namespace Go.Proofs.YtgblofcjkgbojaaDoor.Rdk
open Go Go.RowKit Go.Sort Go.Lib Go.Shelf

set_option maxRecDepth 100000
noncomputable def siE : TypeInfo := (Tryd.prog.info? 53).get (by kernel_rfl)
theorem siK (n : Nat) (h2 : 2 ≤ n) : Lib.swapperK n siE 10 = 6 := by
  have a : siE.hasPointers = false := by kernel_rfl
  have b : siE.bytes = 4 := by kernel_rfl
  have c : (n == 0) = false := by simp; omega
  have d : (n == 1) = false := by simp; omega
  simp [Lib.swapperK, a, b, c, d]
abbrev encU : Int → Value := Value.int .u32
theorem holds_row {w : World} {B blk cap : Nat} {e : TypeId} {zs : List Int} (h : w.ownsRow B e 1 (.slice (some ⟨blk, 0, none⟩) zs.length cap) zs.length (zs.map encU)) : Holds encU w blk 0 zs.toArray := by
  obtain ⟨_, ⟨he, _⟩ | ⟨g, cap', cur, he, _, hheap, hle, hcap, hcs, htake⟩⟩ := h
  · cases he
  · cases he
    intro j hj
    have hj' : j < zs.length := by simpa using hj
    have hx : cur[j]? = some (encU zs[j]) := by
      have : (cur.toList.take (zs.length * 1))[j]? = some (encU zs[j]) := by rw [htake]; simp [hj']
      rw [List.getElem?_take] at this
      split at this
      · simpa using this
      · cases this
    refine ⟨?_, by simp [World.frozen?, hheap]⟩
    rw [show (zs.toArray)[j]! = zs[j] by simp [hj']]
    simp [World.cell?, hheap, hx]
theorem sorted_row {w w' : World} {blk n : Nat} {cur : Array Value} {e : TypeId} {d' : Array Int} {os : Array Obj} (hb : w.heap[blk]? = some (.cells cur e (0, 0))) (hsz : d'.size ≤ cur.size) (hw : w' = grow (putRow encU (Sort.ahead w n) blk 0 d') os) :
    CellsAt w' blk 0 (d'.toList.map encU) ∧ Chg (· = blk) w w' := by
  subst hw
  have hlt : blk < w.heap.size := (Array.getElem?_eq_some_iff.1 hb).1
  have hbl : (putRow encU (Sort.ahead w n) blk 0 d').heap[blk]? = some (.cells (putCells encU 0 d' cur) e (0, 0)) := by
    simp [putRow, mapBlock, Sort.ahead, Array.getElem?_modify, hb, onCells]
  constructor
  · refine ⟨putCells encU 0 d' cur, e, (0, 0), by rw [heap_grow_old _ _ (by simpa using hlt)]; exact hbl, by simp [putCells]; omega, fun i v hv => ?_⟩
    rw [List.getElem?_map] at hv
    have hi : i < d'.size := by
      cases hx : d'.toList[i]? with
      | none => rw [hx] at hv; cases hv
      | some x => simpa using (List.getElem?_eq_some_iff.1 hx).1
    simp only [Array.getElem?_toList, Array.getElem?_eq_getElem hi, Option.map_some, Option.some.injEq] at hv
    have hic : i < cur.size := by omega
    simp only [Nat.zero_add, putCells, Array.getElem?_mapIdx, Array.getElem?_eq_getElem hic, Option.map_some, Nat.zero_le, true_and, if_pos hi, Nat.sub_zero]
    rw [getElem!_pos d' i hi, hv]
  · refine ⟨rfl, rfl, rfl, by simp, fun k hk hne => ?_⟩
    rw [heap_grow_old _ _ (by simpa using hk)]
    have : blk ≠ k := fun e => hne e.symm
    simp [putRow, mapBlock, Sort.ahead, Array.getElem?_modify, this]
theorem tiny_sorted : ∀ (zs : List Int), zs.length ≤ 1 → zs.Pairwise (fun x y => x ≤ y)
  | [], _ => List.Pairwise.nil
  | [_], _ => List.pairwise_singleton _ _
end Go.Proofs.YtgblofcjkgbojaaDoor.Rdk

/- Ranging over tags in a map, by rising numbers: the rules that this wants, and the plain facts. Over any program. -/
namespace Go.Proofs.YtgblofcjkgbojaaDoor
open Go Go.RowKit

section
variable {P : Program} {ops : Array Oper} {Q : Exit → Act → World → Prop} {N : Nat} {rest : List Oper} {L : Sl} {w : World} {d : Nat} {ty : TypeId} {pos : String} {aft : Array Edge}
/-- A call of a function value. -/
theorem wl_callV {x : Operand} {f : FuncId} {bs vs : List Value} {args : List Operand} {ats : Array TypeId} (hx : ev L x = some (.func (.func f) #[] bs.toArray)) (ha : evs L args = some vs) (hf : isFn P f = true) (hd : Nat.blt d N = true)
    (hc : Calls P f (vs ++ bs).toArray w fun e w' => ∃ v, e = .returned v ∧ WL rest P ops Q N ((d, v) :: L) w') :
    WL (⟨some d, .call ⟨.value x, args.toArray, ats⟩, ty, pos, aft, none⟩ :: rest) P ops Q N L w := by
  intro a k
  refine wpList_plain rfl (fun K hK => ?_)
  unfold Oper.wp
  have hargs : args.toArray.map a.eval = vs.toArray := by rw [List.map_toArray, k.evals ha]
  have hr : (execOp a.eval ⟨some d, .call ⟨.value x, args.toArray, ats⟩, ty, pos, aft, none⟩).run P w = .ok (.enter f (vs ++ bs).toArray) w := by
    unfold isFn at hf
    cases hfn : P.funcs[f]? with
    | none => simp [hfn] at hf
    | some fn =>
      simp [hfn] at hf
      have h2 : fn.body ≠ none := by intro e; simp [e] at hf
      have h3 := hf.1
      simp only [execOp, resolve, Deferred.ofValue, k.eval hx, hargs, Sem.run_bind, Sem.run_pure, Result.andThen_ok, invoke, callFunc, run_program, hfn]
      simp [h3, h2]
  rw [hr]
  refine hc.mono (fun e w' he => ?_)
  obtain ⟨v, rfl, hv⟩ := he
  exact hK _ _ (hv _ (k.put v hd))
theorem wl_makeFunc {f : FuncId} {caps : List Operand} {vs : List Value} (ha : evs L caps = some vs) (hd : Nat.blt d N = true) (h : WL rest P ops Q N ((d, .func (.func f) #[] vs.toArray) :: L) w) :
    WL (⟨some d, .makeFunc (.func f) #[] caps.toArray, ty, pos, aft, none⟩ :: rest) P ops Q N L w := by
  intro a k
  refine st_of (o := ⟨some d, .makeFunc (.func f) #[] caps.toArray, ty, pos, aft, none⟩) (v := .func (.func f) #[] vs.toArray) (w' := w) rfl ?_ (h _ (k.put _ hd))
  have hargs : caps.toArray.map a.eval = vs.toArray := by rw [List.map_toArray, k.evals ha]
  simp [execOp, Instr.makeFunc, hargs]
theorem wl_makeIface {x : Operand} {t e : TypeId} {v : Value} (hx : ev L x = some v) (hu : P.underlying t = some (.slice e)) (hd : Nat.blt d N = true) (h : WL rest P ops Q N ((d, .iface t v) :: L) w) :
    WL (⟨some d, .makeInterface t x, ty, pos, aft, none⟩ :: rest) P ops Q N L w := by
  intro a k
  refine st_of (o := ⟨some d, .makeInterface t x, ty, pos, aft, none⟩) (v := .iface t v) (w' := w) rfl ?_ (h _ (k.put _ hd))
  simp [execOp, Instr.makeInterface, run_underlying hu, k.eval hx]
theorem wl_extract {x : Operand} {i : Nat} {vs : Array Value} {v : Value} (hx : ev L x = some (.tuple vs)) (hv : vs[i]? = some v) (hd : Nat.blt d N = true) (h : WL rest P ops Q N ((d, v) :: L) w) :
    WL (⟨some d, .extract x i, ty, pos, aft, none⟩ :: rest) P ops Q N L w := by
  intro a k
  refine st_of (o := ⟨some d, .extract x i, ty, pos, aft, none⟩) (v := v) (w' := w) rfl ?_ (h _ (k.put _ hd))
  simp [execOp, Instr.extract, k.eval hx, hv]
theorem wl_range {x : Operand} {t kt et bm clock : Nat} {es : Array MapEntry} (hx : ev L x = some (.map (some bm))) (hu : P.underlying t = some (.map kt et)) (hb : w.heap[bm]? = some (.map es clock)) (hd : Nat.blt d N = true)
    (h : WL rest P ops Q N ((d, .pointer (some ⟨w.heap.size, 0, none⟩)) :: L) (w.alloc (.mapIter (some bm) clock #[] clock))) : WL (⟨some d, .range t x, ty, pos, aft, none⟩ :: rest) P ops Q N L w := by
  intro a k
  refine st_of (o := ⟨some d, .range t x, ty, pos, aft, none⟩) (v := .pointer (some ⟨w.heap.size, 0, none⟩)) (w' := w.alloc (.mapIter (some bm) clock #[] clock)) rfl ?_ (h _ (k.put _ hd))
  simp [execOp, k.eval hx, run_range_map w t kt et bm es clock hu hb]
theorem wl_next {x : Operand} {r bm since c0 clock : Nat} {seen : Array Nat} {es : Array MapEntry} (hx : ev L x = some (.pointer (some ⟨r, 0, none⟩))) (hr : w.heap[r]? = some (.mapIter (some bm) since seen c0)) (hb : w.heap[bm]? = some (.map es clock)) (hold : ∀ x ∈ es.toList, x.born < since) (hsc : since ≤ c0) (hd : Nat.blt d N = true)
    (h0 : (leftOf es seen).size = 0 → WL rest P ops Q N ((d, .tuple #[.bool false]) :: L) w)
    (h1 : ∀ e ∈ (leftOf es seen).toList, ∀ w', w'.heap[r]? = some (.mapIter (some bm) since (seen.push e.born) clock) → Chg (· = r) w w' → w'.heap.size = w.heap.size → WL rest P ops Q N ((d, .tuple #[.bool true, e.key, e.val]) :: L) w') :
    WL (⟨some d, .next x false, ty, pos, aft, none⟩ :: rest) P ops Q N L w := by
  intro a k
  have hlt : r < w.heap.size := (Array.getElem?_eq_some_iff.1 hr).1
  rcases run_next_at (P := P) w ty r bm since c0 seen es clock hr hb hold hsc with ⟨hz, hrun⟩ | ⟨e, he, w1, hw1, hrun⟩
  · refine st_of (o := ⟨some d, .next x false, ty, pos, aft, none⟩) (v := .tuple #[.bool false]) (w' := w) rfl ?_ (h0 hz _ (k.put _ hd))
    simp [execOp, k.eval hx, hrun]
  · refine st_of (o := ⟨some d, .next x false, ty, pos, aft, none⟩) (v := .tuple #[.bool true, e.key, e.val]) (w' := Go.ChangeMaps.setBlock w1 r (.mapIter (some bm) since (seen.push e.born) clock)) rfl ?_ (h1 e he _ ?_ ?_ ?_ _ (k.put _ hd))
    · simp [execOp, k.eval hx, hrun]
    · rcases hw1 with rfl | rfl <;> simp [Go.ChangeMaps.setBlock, hlt]
    · rcases hw1 with rfl | rfl <;> exact ⟨rfl, rfl, rfl, by simp [Go.ChangeMaps.setBlock], fun j _ hn => by
        have : r ≠ j := fun e => hn e.symm
        simp [Go.ChangeMaps.setBlock, this] <;> rfl⟩
    · rcases hw1 with rfl | rfl <;> simp [Go.ChangeMaps.setBlock]
theorem wl_entry {x : Operand} {r bm since clock : Nat} {seen : Array Nat} {es : Array MapEntry} {e : MapEntry} (hx : ev L x = some (.pointer (some ⟨r, 0, none⟩))) (hr : w.heap[r]? = some (.mapIter (some bm) since (seen.push e.born) clock)) (hb : w.heap[bm]? = some (.map es clock)) (he : e ∈ es.toList) (hn : (es.toList.map (·.born)).Nodup) (hd : Nat.blt d N = true)
    (h : WL rest P ops Q N ((d, .tuple #[e.key, e.val]) :: L) w) : WL (⟨some d, .entry x, ty, pos, aft, none⟩ :: rest) P ops Q N L w := by
  intro a k
  refine st_of (o := ⟨some d, .entry x, ty, pos, aft, none⟩) (v := .tuple #[e.key, e.val]) (w' := w) rfl ?_ (h _ (k.put _ hd))
  simp [execOp, k.eval hx, run_entry_at w r bm since seen es clock e hr hb he hn]
/-- A row with room for n elements, none in it yet. -/
theorem wl_makeRow {t e sz B n : Nat} {kl kc : IntKind} {x : Operand} (hT : rowTy P t e sz = true) (hx : ev L x = some (.int kc (n : Int))) (hn : n ≤ many) (hd : Nat.blt d N = true) (hB : B ≤ w.heap.size)
    (h : ∀ w', w'.ownsRow B e sz (.slice (some ⟨w.heap.size, 0, none⟩) 0 n) 0 [] → w.grownBy w' none → w'.heap.size = w.heap.size + 1 → WL rest P ops Q N ((d, .slice (some ⟨w.heap.size, 0, none⟩) 0 n) :: L) w') :
    WL (⟨some d, .makeSlice t (.const (.int kl 0)) x, ty, pos, aft, none⟩ :: rest) P ops Q N L w := by
  intro a k
  obtain ⟨hu, i, z, hi, hs1, hb1, hz, hzc⟩ := rowTy_out hT
  have hm : i.bytes * n ≤ 281474976710656 := by have := Nat.mul_le_mul hb1 hn; simp only [many] at this; omega
  have h63 : n ≤ maxLen := by simp only [many, maxLen] at *; omega
  have h63' : (n : Int) ≤ 9223372036854775807 := by simp only [maxLen] at h63; omega
  have hb' : (i.bytes : Int) * (n : Int) ≤ 281474976710656 := by
    have h : ((i.bytes * n : Nat) : Int) ≤ 281474976710656 := by omega
    rwa [Int.natCast_mul] at h
  have hr := run_make (P := P) w t e i z hu hi hz kl kc 0 n (Int.le_refl _) (by omega) hb' h63'
  simp only [Int.toNat_zero, Int.toNat_natCast] at hr
  refine st_of (o := ⟨some d, .makeSlice t (.const (.int kl 0)) x, ty, pos, aft, none⟩) (w' := w.alloc (.cells (madeCells z.cells (n * i.size)) e)) rfl ?_ (h _ (by rw [← hs1]; exact World.ownsRow_made w _ n hB h63 (size_madeCells _ _)) (World.grownBy_alloc w _ none) (by simp) _ (k.put _ hd))
  simp only [execOp, eval_const, k.eval hx, Sem.run_bind, hr, Result.andThen_ok, Sem.run_pure]
/-- What lies under a key. -/
theorem wl_lookup {x y : Operand} {t kt et bm clock key : Nat} {es : Array MapEntry} {ks : List Nat} (hx : ev L x = some (.map (some bm))) (hy : ev L y = some (.int .u32 (key : Int))) (hu : P.underlying t = some (.map kt et)) (hk : P.underlying kt = some (.int .u32)) (hb : w.heap[bm]? = some (.map es clock)) (hm : Mapped es clock ks) (hin : ∃ e ∈ es, e.key = .int .u32 (key : Int)) (hd : Nat.blt d N = true)
    (h : ∀ e ∈ es, e.key = .int .u32 (key : Int) → WL rest P ops Q N ((d, e.val) :: L) w) : WL (⟨some d, .lookup t x y false, ty, pos, aft, none⟩ :: rest) P ops Q N L w := by
  intro a k
  have hik : MapKept.IsKey (.int .u32) (.int .u32 (key : Int)) := rfl
  have hks : ∀ x ∈ es.toList, MapKept.IsKey (.int .u32) x.key := fun x hx => by
    obtain ⟨k, _, e⟩ := hm.2.2.1 x hx
    rw [e]; rfl
  rcases MapKept.findNow_spec hik es.toList 0 hks with ⟨_, g2⟩ | ⟨j, e, g1, g2, g3⟩
  · obtain ⟨e, he, hek⟩ := hin
    exact absurd hek (g2 e (Array.mem_toList_iff.2 he))
  · have hj : es[j]? = some e := by simpa using g2
    refine st_of (o := ⟨some d, .lookup t x y false, ty, pos, aft, none⟩) (v := e.val) (w' := w) rfl ?_ (h e (Array.mem_of_getElem? hj) g3 _ (k.put _ hd))
    simp [execOp, k.eval hx, k.eval hy, Instr.lookup, run_underlying hu, MapKept.run_getObj_map hb, MapKept.run_checkKey hk hik, MapKept.run_findKey hk g1, Result.andThen]
end

/-- Two rows with the same numbers, both rising, are one. -/
theorem sorted_one : ∀ (a b : List Int), a.Perm b → a.Pairwise (fun x y => x ≤ y) → b.Pairwise (fun x y => x ≤ y) → a = b
  | [], b, h, _, _ => (List.Perm.nil_eq h)
  | x :: a, [], h, _, _ => by have := h.length_eq; simp at this
  | x :: a, y :: b, h, ha, hb => by
    have ha' := List.pairwise_cons.1 ha
    have hb' := List.pairwise_cons.1 hb
    have hx : x ∈ y :: b := h.mem_iff.1 (by simp)
    have hy : y ∈ x :: a := h.mem_iff.2 (by simp)
    have e : x = y := by
      rcases List.mem_cons.1 hx with e | hx
      · exact e
      · rcases List.mem_cons.1 hy with e | hy
        · exact e.symm
        · have := hb'.1 x hx; have := ha'.1 y hy; omega
    subst e
    rw [sorted_one a b h.cons_inv ha'.2 hb'.2]
/-- A row in which nothing comes twice, within another no longer: the same. -/
theorem perm_sub {α : Type} [DecidableEq α] : ∀ (a b : List α), a.Nodup → (∀ x ∈ a, x ∈ b) → b.length ≤ a.length → a.Perm b
  | [], b, _, _, h => by
    have : b = [] := List.length_eq_zero_iff.1 (by simpa using h)
    subst this; exact List.Perm.refl _
  | x :: a, b, hn, hs, hl => by
    have hn' := List.nodup_cons.1 hn
    have hx : x ∈ b := hs x (by simp)
    have h1 := List.perm_cons_erase hx
    refine (List.Perm.cons x (perm_sub a (b.erase x) hn'.2 (fun y hy => ?_) ?_)).trans h1.symm
    · exact (List.mem_erase_of_ne (fun e => hn'.1 (by rw [← e]; exact hy))).2 (hs y (by simp [hy]))
    · rw [List.length_erase_of_mem hx]; simp at hl; omega
/-- One more entry has been handed out. -/
theorem leftOf_push {es : Array MapEntry} {seen : Array Nat} {e : MapEntry} (he : e ∈ (leftOf es seen).toList) (hn : (es.toList.map (·.born)).Nodup) : (leftOf es seen).toList.Perm (e :: (leftOf es (seen.push e.born)).toList) := by
  have h1 : (leftOf es (seen.push e.born)).toList = (leftOf es seen).toList.filter (fun x => x.born != e.born) := by
    simp only [leftOf, Array.toList_filter, List.filter_filter]
    apply List.filter_congr
    intro x _
    simp only [Array.contains_push]
    cases hb : (x.born == e.born) <;> cases seen.contains x.born <;> simp_all
  rw [h1]
  have hnd : ((leftOf es seen).toList.map (·.born)).Nodup := by
    simp only [leftOf, Array.toList_filter]
    exact (List.filter_sublist.map _).nodup hn
  generalize (leftOf es seen).toList = l at he hnd
  induction l with
  | nil => cases he
  | cons y l ih =>
    simp only [List.map_cons, List.nodup_cons] at hnd
    rcases List.mem_cons.1 he with rfl | he
    · have hall : l.filter (fun x => x.born != e.born) = l := by
        refine List.filter_eq_self.2 (fun x hx => ?_)
        have : x.born ≠ e.born := fun h => hnd.1 (by rw [← h]; exact List.mem_map.2 ⟨x, hx, rfl⟩)
        simpa using this
      rw [List.filter_cons, if_neg (by simp), hall]
    · have hne : y.born ≠ e.born := fun h => hnd.1 (by rw [h]; exact List.mem_map.2 ⟨e, he, rfl⟩)
      rw [List.filter_cons, if_pos (by simpa using hne)]
      exact (List.Perm.cons y (ih he hnd.2)).trans (List.Perm.swap _ _ _)
def intOf : Value → Int
  | .int _ n => n
  | _ => 0
/-- The keys that were handed out, sorted, are the tags' numbers. -/
theorem keys_sorted {es : Array MapEntry} {clock : Nat} {ks : List Nat} {zs zs' : List Int} (hm : Mapped es clock ks) (hk : ∀ k ∈ ks, ∃ e ∈ es, e.key = .int .u32 (k : Int)) (hz : (zs.map (Value.int .u32)).Perm (es.toList.map (·.key))) (hp : zs'.Perm zs) (hs : zs'.Pairwise (fun x y => x ≤ y)) : zs' = ks.map (fun k : Nat => (k : Int)) := by
  have h1 : (ks.map (fun k : Nat => (k : Int))).Perm (es.toList.map (fun e => intOf e.key)) := by
    refine perm_sub _ _ ?_ ?_ ?_
    · refine List.pairwise_map.2 (hm.2.2.2.imp (fun h e => by omega))
    · intro x hx
      obtain ⟨k, hk', rfl⟩ := List.mem_map.1 hx
      obtain ⟨e, he, hek⟩ := hk k hk'
      exact List.mem_map.2 ⟨e, Array.mem_toList_iff.2 he, by rw [hek]; rfl⟩
    · simp [hm.1]
  have h2 : zs.Perm (es.toList.map (fun e => intOf e.key)) := by
    have := hz.map intOf
    simpa [List.map_map, Function.comp_def, intOf] using this
  exact sorted_one _ _ ((hp.trans h2).trans h1.symm) hs (List.pairwise_map.2 (hm.2.2.2.imp (fun h => by omega)))
/-- The tags' octets, one by one. -/
theorem semT_at : ∀ (kvs : List (Nat × D)) (ys : List UInt8), semT kvs = some ys → ∀ i (h : i < kvs.length), ∃ pre cs post, semT (kvs.take i) = some pre ∧ ((sliceOf kvs[i].2).bind fun s => bytesOf s.2) = some cs ∧ kvs[i].1 < 4294967296 ∧ cs.length < 2147483648 ∧
    semT (kvs.take (i + 1)) = some (pre ++ (uvar kvs[i].1 ++ uvar cs.length ++ cs)) ∧ ys = pre ++ (uvar kvs[i].1 ++ uvar cs.length ++ cs) ++ post
  | [], _, _, i, h => by cases h
  | kv :: r, ys, hs, i, h => by
    simp only [semT] at hs
    split at hs
    · rename_i cs b hc hb
      split at hs
      · rename_i hlt
        cases hs
        cases i with
        | zero =>
          refine ⟨[], cs, b, by simp [semT], by simpa using hc, hlt.1, hlt.2, ?_, by simp⟩
          simp [semT, hc, hlt]
        | succ i =>
          obtain ⟨pre, cs', post, k1, k2, k3, k4, k5, k6⟩ := semT_at r b hb i (by simpa using h)
          refine ⟨uvar kv.1 ++ uvar cs.length ++ cs ++ pre, cs', post, ?_, by simpa using k2, by simpa using k3, k4, ?_, ?_⟩
          · simp only [List.take_succ_cons, semT, hc, k1, if_pos hlt]
          · simp only [List.take_succ_cons, semT, hc, k5, if_pos hlt, List.getElem_cons_succ, List.append_assoc]
          · rw [k6]; simp [List.append_assoc]
      · cases hs
    · cases hs
end Go.Proofs.YtgblofcjkgbojaaDoor

/- Tags.AppendEach at the seat: the tags' octets, by rising numbers. -/
namespace Go.Proofs.YtgblofcjkgbojaaDoor.Rdk
open Go Go.RowKit

set_option maxRecDepth 100000
/-- Nothing has turned but block bx, d's own block and new ones. -/
structure GrewB (bx : Nat) (w w' : World) (d d' : Value) : Prop where
  chg : Chg (fun j => j = bx ∨ d.ownBlock = some j) w w'
  fresh : d'.ownBlock = d.ownBlock ∨ ∀ g, d'.ownBlock = some g → w.heap.size ≤ g
theorem Own.under {w w' : World} {B u8 : Nat} {d : Value} {xs : List UInt8} (h : Own w B u8 d xs) (hb : Below w.heap.size w w') : Own w' B u8 d xs := by
  refine h.kept (grown_of hb) ?_
  cases hd : d.ownBlock with
  | none => exact .inl rfl
  | some g => exact .inr (by simp)
/-- What is owned is a slice of octets. -/
theorem GrewB.refl (bx : Nat) (w : World) (d : Value) : GrewB bx w w d d := ⟨Chg.refl _ _, .inl rfl⟩
theorem GrewB.trans {bx : Nat} {a b c : World} {d e f : Value} (h : GrewB bx a b d e) (k : GrewB bx b c e f) : GrewB bx a c d f := by
  refine ⟨⟨k.chg.os.trans h.chg.os, k.chg.tape.trans h.chg.tape, k.chg.output.trans h.chg.output, Nat.le_trans h.chg.size k.chg.size, fun i hi hne => ?_⟩, ?_⟩
  · rw [← h.chg.block i hi hne]
    refine k.chg.block i (Nat.lt_of_lt_of_le hi h.chg.size) (fun e' => ?_)
    rcases e' with e' | e'
    · exact hne (.inl e')
    · rcases h.fresh with hf | hf
      · exact hne (.inr (hf.symm.trans e'))
      · have := hf i e'; omega
  · rcases k.fresh with kf | kf
    · rcases h.fresh with hf | hf
      · exact .inl (kf.trans hf)
      · exact .inr (fun g hg => hf g (kf ▸ hg))
    · exact .inr (fun g hg => Nat.le_trans h.chg.size (kf g hg))
theorem GrewB.grew {bx : Nat} {w w' : World} {d d' : Value} (h : Grew w w' d d') : GrewB bx w w' d d' :=
  ⟨⟨h.grown.os, h.grown.tape, h.grown.output, h.grown.size, fun k hk hn => h.grown.block k hk (fun e => hn (.inr e.symm))⟩, h.fresh⟩
theorem GrewB.stored {bx : Nat} {w w' : World} (d : Value) (h : w.grownBy w' (some bx)) : GrewB bx w w' d d := ⟨(Chg.grown h).wide (fun _ h => .inl h), .inl rfl⟩
theorem GrewB.ne {bx : Nat} {w w' : World} {d d' : Value} (h : GrewB bx w w' d d') (hne : d.ownBlock ≠ some bx) (hlt : bx < w.heap.size) : d'.ownBlock ≠ some bx := by
  rcases h.fresh with hf | hf
  · rw [hf]; exact hne
  · intro e; have := hf bx e; omega
theorem Src.chg {S : Nat → Prop} {w w' : World} {B : Nat} {v : Value} {ys : List UInt8} (h : Src w B v ys) (hc : Chg S w w') (hS : ∀ j, j < B → ¬ S j) (hB : B ≤ w.heap.size) : Src w' B v ys := by
  refine ⟨?_, h.2⟩
  rcases h.1 with ⟨a, c, rfl, rfl⟩ | ⟨b, off, c, rfl, hcs⟩
  · exact .inl ⟨a, c, rfl, rfl⟩
  · rcases h.2 with rfl | h2
    · exact .inl ⟨_, _, rfl, rfl⟩
    have hb : b < B := h2 b rfl
    exact .inr ⟨b, off, c, rfl, hcs.of_block (hc.block b (by omega) (hS b hb))⟩
theorem GrewB.low {bx B : Nat} {w w' : World} {d d' : Value} (h : GrewB bx w w' d d') (hBx : B ≤ bx) (hd : ∀ g, d.ownBlock = some g → B ≤ g) (hB : B ≤ w.heap.size) : Below B w w' :=
  ⟨h.chg.os, h.chg.tape, h.chg.output, h.chg.size, fun k hk => h.chg.block k (by omega) (fun e => by
    rcases e with e | e
    · omega
    · have := hd k e; omega)⟩
theorem own_one {w : World} {B u8 : Nat} {d : Value} {xs : List UInt8} (h : Own w B u8 d xs) : d.oneCell' = true := by
  obtain ⟨a, c, rfl⟩ := h.shape
  rfl
theorem rising_len : ∀ (l : List Nat) (lo M : Nat), l.Pairwise (· < ·) → (∀ x ∈ l, lo ≤ x ∧ x < M) → l.length ≤ M - lo
  | [], _, _, _, _ => by simp
  | x :: l, lo, M, hp, h => by
    have hp' := List.pairwise_cons.1 hp
    have hx := h x (by simp)
    have := rising_len l (x + 1) M hp'.2 (fun y hy => ⟨hp'.1 y hy, (h y (by simp [hy])).2⟩)
    simp only [List.length_cons]; omega
theorem semT_keys {kvs : List (Nat × D)} {ys : List UInt8} (h : semT kvs = some ys) : ∀ k ∈ kvs.map (·.1), k < 4294967296 := by
  intro k hk
  obtain ⟨kv, hkv, rfl⟩ := List.mem_map.1 hk
  obtain ⟨i, hi, rfl⟩ := List.mem_iff_getElem.1 hkv
  obtain ⟨_, _, _, _, _, h3, _⟩ := semT_at kvs ys h i hi
  exact h3
theorem row_block {w : World} {B e sz n g : Nat} {d : Value} {xs : List Value} (h : w.ownsRow B e sz d n xs) (hg : d.ownBlock = some g) : ∃ cur, w.heap[g]? = some (.cells cur e (0, 0)) := by
  rcases h.2 with ⟨rfl, _⟩ | ⟨g', cap', cur, rfl, _, hheap, _⟩
  · simp [Value.ownBlock] at hg
  · simp only [Value.ownBlock, Option.some.injEq] at hg; subst hg; exact ⟨cur, hheap⟩
theorem Row.kept {w w' : World} {B e sz n : Nat} {d : Value} {xs : List Value} {row : Option Nat} (h : w.ownsRow B e sz d n xs) (hg : w.grownBy w' row) (hne : d.ownBlock = none ∨ d.ownBlock ≠ row) : w'.ownsRow B e sz d n xs :=
  World.ownsRow.kept h hg hne
theorem nodup_one {α β : Type} (f : α → β) : ∀ (l : List α), (l.map f).Nodup → ∀ x ∈ l, ∀ y ∈ l, f x = f y → x = y
  | [], _, x, hx, _, _, _ => by cases hx
  | a :: l, hn, x, hx, y, hy, h => by
    simp only [List.map_cons, List.nodup_cons] at hn
    rcases List.mem_cons.1 hx with e1 | h1
    · rcases List.mem_cons.1 hy with e2 | h2
      · rw [e1, e2]
      · exact (hn.1 (List.mem_map.2 ⟨y, h2, by rw [← h, e1]⟩)).elim
    · rcases List.mem_cons.1 hy with e2 | h2
      · exact (hn.1 (List.mem_map.2 ⟨x, h1, by rw [h, e2]⟩)).elim
      · exact nodup_one f l hn.2 x h1 y h2 h
theorem leftOf_nil (es : Array MapEntry) : leftOf es #[] = es := by
  unfold leftOf
  exact Array.filter_eq_self.2 (by simp)
theorem arOf {B : Nat} {w : World} {d : D} {s : Bool × List D} {v : Value} (h : sliceOf d = some s) (hr : Rep (Lo B) w d [v]) : ArOk B w (.d d) v := by
  cases d <;> first | exact hr | (simp [sliceOf] at h)
end Go.Proofs.YtgblofcjkgbojaaDoor.Rdk

/- A whole function that appends. Over any program. -/
namespace Go.Proofs.YtgblofcjkgbojaaDoor
open Go Go.RowKit

def tmpOf (r : Array ResultVar) : Option Nat := match r with
  | ⟨[.tmp u]⟩ => some u
  | _ => none
theorem tmpOf_out {r : Array ResultVar} {t : Nat} (h : tmpOf r = some t) : r = #[.tmp t] := by
  unfold tmpOf at h
  split at h
  · cases h; rfl
  · cases h
def appRun (P : Program) (K : Kt) (u8 f : Nat) (sh : List Ck) : Option (Option Sy × List Out × Bool) := match P.funcs[f]? with
  | some fn => (match fn.body, tmpOf fn.results with
    | some c, some r => bif isFn P f && Nat.ble 2 fn.ntmps then (match runS P K fn.ntmps u8 4000 [sh] [] ([(0, .at_ 0 0)], [1]) c with
      | some x => some (evS x.1 (.tmp r), x.2.1, x.2.2)
      | none => none) else none
    | _, _ => none)
  | none => none
theorem app_ok {P : Program} {K : Kt} {u8 f : Nat} {sh : List Ck} {os : List Out} (hT : TlenOk P K) (hK : FnsOk P u8 K) (hE : TeachOk P u8 K) (h : appRun P K u8 f sh = some (some .dst, os, true)) {B b : Nat} {w : World} {cs : List Value} {ds : List D} {d : Value} {xs ys : List UInt8}
    (hit : ItOk B w ⟨b, 0, 0, cs, ds⟩) (hsh : shDs ds = sh) (hver : cs[0]? = some K.ver) (ho : Own w B u8 d xs) (hB : B ≤ w.heap.size) (hs : semL [ds] os = some ys) (hl : xs.length + ys.length ≤ lim) :
    isFn P f = true ∧ Calls P f #[.pointer (some ⟨b, 0, none⟩), d] w fun e w' => ∃ d', e = .returned d' ∧ Own w' B u8 d' (xs ++ ys) ∧ Grew w w' d d' := by
  unfold appRun at h
  split at h
  · rename_i fn hfn
    split at h
    · rename_i c r hbody hres
      cases hc : isFn P f && Nat.ble 2 fn.ntmps with
      | false => rw [hc] at h; cases h
      | true =>
        rw [hc] at h
        simp only [cond_true] at h
        rw [Bool.and_eq_true] at hc
        have hn : 2 ≤ fn.ntmps := Nat.le_of_ble_eq_true hc.2
        split at h
        · rename_i x hx
          simp only [Option.some.injEq, Prod.mk.injEq] at h
          obtain ⟨h1, h2, h3⟩ := h
          refine ⟨hc.1, calls_of_wp hfn hbody ?_⟩
          have hrun := runS_ok (B := B) hT hK hE _ _ _ _ _ x.1 x.2.1 x.2.2 (by rw [hx])
          refine hrun [⟨b, 0, 0, cs, ds⟩] _ w d xs ys _ (by simp) ⟨?_, ?_, ?_, ?_⟩ (fun q hq => by cases hq) ho hB (by rw [h2]; simpa using hs) hl ?_
          · refine ⟨by simp; omega, rfl, fun t s e => ?_, fun t e => ?_⟩
            · simp only [lkS] at e
              cases hb : Nat.beq 0 t with
              | false => rw [hb] at e; cases e
              | true =>
                rw [hb] at e
                have := beq_out hb; subst this
                simp only [cond_true, Option.some.injEq] at e
                subst e
                simp only [den, gt, Array.getD_eq_getD_getElem?]
                rw [Array.getElem?_append_left (by simp)]; rfl
            · have : 1 = t := by simpa [memN] using e
              subst this
              simp only [gt, Array.getD_eq_getD_getElem?]
              rw [Array.getElem?_append_left (by simp)]; rfl
          · intro it hi; simp at hi; subst hi; exact hit
          · refine ⟨rfl, fun k x hx => ?_⟩
            cases k with
            | zero => simp at hx; subst hx; simp [hsh]
            | succ k => simp at hx
          · intro it hi; simp at hi; subst hi; exact hver
          · intro a' w' d' H' ho' hg'
            rw [h3]
            have hd := (H'.kn.eval h1).1 rfl
            refine ⟨H'.kn.defers, d', ?_, d', rfl, ho', hg'⟩
            rw [results_tmp (tmpOf_out hres)]
            rw [eval_tmp] at hd
            simp only [gt] at hd
            rw [hd]
        · cases h
    · cases h
  · cases h
end Go.Proofs.YtgblofcjkgbojaaDoor

/- What is read of what is written: a whole struct. No program in sight. -/
namespace Go.Proofs.YtgblofcjkgbojaaDoor
open Go Go.RowKit

theorem endR_out {flex : Bool} {off : Nat} {a r : List Ra} (h : endR flex off a = some r) : (flex = true ∧ a = .tags off :: r) ∨ (flex = false ∧ a = r) := by
  unfold endR at h
  cases flex with
  | false => simp only [Bool.false_eq_true, if_false, Option.some.injEq] at h; exact .inr ⟨rfl, h⟩
  | true =>
    simp only [if_true] at h
    split at h
    · rename_i o r'
      cases hb : Nat.beq o off with
      | false => rw [hb] at h; cases h
      | true =>
        rw [hb] at h
        simp only [cond_true, Option.some.injEq] at h
        subst h
        rw [beq_out hb]
        exact .inl ⟨rfl, rfl⟩
    · cases h
theorem isEnd_out {flex : Bool} {off : Nat} {a : List Ra} (h : isEnd flex off a = true) : endR flex off a = some [] := by
  unfold isEnd at h
  split at h
  · assumption
  · cases h
theorem isPrim_out {p : Rp} {a : List Ra} (h : isPrim p a = true) : a = [.prim p 0] := by
  unfold isPrim at h
  split at h
  · rw [rpEq_out h]
  · cases h
/-- What a part of the acts reads of a part of the octets. -/
def Reads (_ver : Int) (_tg _flex : Bool) (sh : List Ck) (H : List D → Prop) (a r : List Ra) (off : Nat) (ys : List UInt8) : Prop :=
  ∀ (pre mid post : List D) (s : List UInt8), shDs mid = sh → unit pre → unit mid → D.widths pre = off →
    ∃ new new', rdAs a (pre ++ mid ++ post) (ys ++ s) = rdAs r (pre ++ new ++ post) s ∧ shDs new = sh ∧ unit new ∧ H new' ∧ shDs new' = sh ∧ pos new' ∧ Imp new new'
theorem reads_tags {ver : Int} {tg flex : Bool} (htg : flex = true → tg = true) {a r : List Ra} {off : Nat} {t : Tree} {fs : List Fld} (h : endR flex off a = some r) (hu : FitU fs t) :
    Reads ver tg flex (if tg then [.mp] else []) (HoldU tg flex t) a r off (if flex then uvar t.u.length ++ t.u.flatMap (fun kv => wTag kv.1 kv.2) else []) := by
  intro pre mid post s hsh hpre hmid hw
  rcases endR_out h with ⟨rfl, rfl⟩ | ⟨rfl, rfl⟩
  · have := htg rfl
    subst this
    simp only [if_true] at hsh ⊢
    have hr : Rising t.u := by rw [← hu.1]; exact unknown_rising _ _
    refine ⟨[tagsK t.u], [tagsK t.u], ?_, by simp [shDs, tagsK, shD], fun d hd => by simp at hd; subst hd; rfl, by simp [HoldU], by simp [shDs, tagsK, shD], fun d hd => by simp at hd; subst hd; simp [tagsK, D.width], Imp.refl _⟩
    simp only [rdAs, rdA]
    rw [tagsP_ok t.u s hr hu.2.1 hu.2.2]
    simp only [Option.bind_some]
    subst hw
    rw [putD_in (unit_pos hpre) (unit_pos hmid) (by rw [hsh]; simp [shDs, tagsK, shD])]
    rfl
  · refine ⟨mid, mid, by simp, hsh, hmid, ?_, hsh, unit_pos hmid, Imp.refl _⟩
    unfold HoldU
    cases tg with
    | false =>
      simp only [Bool.false_eq_true, if_false] at hsh ⊢
      have := unit_len hmid
      rw [hsh] at this
      exact List.length_eq_zero_iff.1 this.symm
    | true =>
      simp only [if_true, Bool.false_eq_true, if_false] at hsh ⊢
      have := unit_len hmid
      rw [hsh] at this
      obtain ⟨d, rfl⟩ := List.length_eq_one_iff.1 this.symm
      exact ⟨d, rfl, by simpa [shDs] using hsh⟩
theorem reads_app {ver : Int} {tg flex : Bool} {sh1 sh2 : List Ck} {H1 H2 : List D → Prop} {a b r : List Ra} {off : Nat} {y1 y2 : List UInt8} (h1 : Reads ver tg flex sh1 H1 a b off y1) (h2 : Reads ver tg flex sh2 H2 b r (off + sh1.length) y2) :
    Reads ver tg flex (sh1 ++ sh2) (fun ds => ∃ x y, ds = x ++ y ∧ H1 x ∧ H2 y ∧ shDs x = sh1 ∧ pos x) a r off (y1 ++ y2) := by
  intro pre mid post s hsh hpre hmid hw
  obtain ⟨m1, m2, rfl, k1, k2, u1, u2⟩ := unit_split hmid hsh
  obtain ⟨n1, n1', e1, e2, e3, e4, e5, e6, e7⟩ := h1 pre m1 (m2 ++ post) (y2 ++ s) k1 hpre u1 hw
  obtain ⟨n2, n2', g1, g2, g3, g4, g5, g6, g7⟩ := h2 (pre ++ n1) m2 post s k2 (unit_app hpre e3) u2 (by rw [widths_append, hw, ← shs_width, e2])
  refine ⟨n1 ++ n2, n1' ++ n2', ?_, by rw [shDs_append, e2, g2], unit_app e3 g3, ⟨n1', n2', rfl, e4, g4, e5, e6⟩, by rw [shDs_append, e5, g5], pos_append e6 g6, Imp.app e7 g7⟩
  have a1 : pre ++ (m1 ++ m2) ++ post = pre ++ m1 ++ (m2 ++ post) := by simp [List.append_assoc]
  have a2 : pre ++ n1 ++ (m2 ++ post) = pre ++ n1 ++ m2 ++ post := by simp [List.append_assoc]
  have a3 : pre ++ (n1 ++ n2) ++ post = pre ++ n1 ++ n2 ++ post := by simp [List.append_assoc]
  rw [a1, List.append_assoc y1, e1, a2, g1, a3]
theorem Reads.weak {ver : Int} {tg flex : Bool} {sh : List Ck} {H H' : List D → Prop} {a r : List Ra} {off : Nat} {ys : List UInt8} (h : Reads ver tg flex sh H a r off ys) (k : ∀ ds, H ds → H' ds) : Reads ver tg flex sh H' a r off ys := by
  intro pre mid post s hsh hpre hmid hw
  obtain ⟨n1, n1', e1, e2, e3, e4, e5⟩ := h pre mid post s hsh hpre hmid hw
  exact ⟨n1, n1', e1, e2, e3, k _ e4, e5⟩
theorem reads_part {ver : Int} {tg flex : Bool} (htg : flex = true → tg = true) {a b r : List Ra} {off : Nat} {t : Tree} {fs : List Fld} (h1 : Reads ver tg flex (shFs tg fs) (HoldFs ver tg flex fs 0 t) a b off (wFs ver flex fs 0 t)) (h : endR flex (off + (shFs tg fs).length) b = some r) (hf : FitT ver fs t) :
    Reads ver tg flex (shP tg fs) (HoldP ver tg flex fs t) a r off (wPart ver flex fs t) := by
  have e : wPart ver flex fs t = wFs ver flex fs 0 t ++ (if flex then uvar t.u.length ++ t.u.flatMap (fun kv => wTag kv.1 kv.2) else []) := by
    unfold wPart
    rw [allTagsK_eq hf.1 hf.2]
    cases flex <;> simp [asm]
  rw [e]
  exact (reads_app h1 (reads_tags htg h hf.2)).weak (fun ds ⟨x, y, e1, e2, e3, _⟩ => ⟨x, y, e1, e2, e3⟩)
theorem unit_lits (l : List Value) : unit (litsD l) := by
  intro d hd
  simp only [litsD, List.mem_map] at hd
  obtain ⟨u, _, rfl⟩ := hd
  rfl
mutual
theorem mF_ok (ver : Int) (tg flex : Bool) (htg : flex = true → tg = true) : ∀ (f : Fld) (a r : List Ra) (off : Nat), mF ver tg flex off f a = some r → ∀ t, FitF ver f t → Reads ver tg flex (shF tg f) (HoldF ver tg flex f t) a r off (wField ver flex f t)
  | .mk kind fr upto nul tag df of sub, a, r, off, h, t, hfit => by
    have hM : Most = 32767 := rfl
    simp only [mF] at h
    simp only [FitF] at hfit
    obtain ⟨hnul, h8, hfit⟩ := hfit
    have hH : ∀ ds, HoldF ver tg flex (.mk kind fr upto nul tag df of sub) t ds ↔ _ := fun ds => HoldF_mk ver tg flex kind fr upto nul tag df of sub t ds
    rw [wField_mk ver flex kind fr upto nul tag df of sub t _ rfl]
    by_cases h11 : kind = 11
    · simp only [h11, if_true] at h hfit hH ⊢
      obtain ⟨hlen, hst, hpr⟩ := hfit
      have hth := things_of hlen
      split at h
      · rename_i c nb o st dfl body rr
        cases hc : (c == flex) && (nb == decide (0 ≤ nul ∧ nul ≤ ver)) && Nat.beq o off && (st == decide (of = 10)) && decide (shDs (litsD dfl) = shE tg of sub) &&
          (if of = 10 then (flex || ne1 ver sub) && endsO flex (shFs tg sub).length (mFs ver tg flex 0 sub body) else isPrim (rpV of (-1) ver flex) body) with
        | false => rw [hc] at h; cases h
        | true =>
          rw [hc] at h
          simp only [cond_true, Option.some.injEq] at h
          subst h
          simp only [Bool.and_eq_true, beq_iff_eq, decide_eq_true_eq] at hc
          obtain ⟨⟨⟨⟨⟨g1, g2⟩, g3⟩, g4⟩, g5⟩, g6⟩ := hc
          subst g1
          have := beq_out g3; subst this
          -- the elements
          have hel : ∀ s, ∃ dss els, rdRow body (litsD dfl) t.l.length (t.l.flatMap (wVal of c false (wPart ver c sub)) ++ s) = some (dss, s) ∧ dss.length = t.l.length ∧ els.length = t.l.length ∧ Imp (dss.map (elD st)) els ∧
              (if of = 10 then ∀ i, i < t.l.length → ∃ ps, els[i]? = some (.agg ps) ∧ HoldP ver tg c sub (att t i) ps else els = t.l.map (valK of (-1))) := by
            intro s
            by_cases h10 : of = 10
            · simp only [h10, if_true, decide_true, Bool.and_eq_true] at g4 g5 g6 ⊢
              subst g4
              obtain ⟨g6, g7⟩ := g6
              unfold endsO at g7
              split at g7
              · rename_i r' hr'
                have hend := isEnd_out g7
                rw [show wVal 10 c false (wPart ver c sub) = wPart ver c sub from funext fun x => by simp [wVal]]
                obtain ⟨dss, e1, e2, e3⟩ := rdRow_ok body (litsD dfl) (wPart ver c sub) (fun x nd => ∃ nd', HoldP ver tg c sub x nd' ∧ Imp nd nd') t.l (fun x hx s => by
                  obtain ⟨hf, hu⟩ := hst h10 x hx
                  have hR := reads_part (off := 0) htg (mFs_ok ver tg c htg sub body r' 0 hr' 0 x hf) (by rw [Nat.zero_add]; exact hend) ⟨hf, hu⟩
                  obtain ⟨new, new', k1, k2, k3, k4, k5, k6, k7⟩ := hR [] (litsD dfl) [] s (by rw [g5]; simp [shE]) (fun d hd => by cases hd) (unit_lits _) rfl
                  simp only [List.nil_append, List.append_nil, rdAs] at k1
                  exact ⟨new, k1, new', k4, k7⟩) s
                have hch : ∀ i (hi : i < t.l.length), ∃ ps, HoldP ver tg c sub t.l[i] ps ∧ ∃ nd, dss[i]? = some nd ∧ Imp nd ps := by
                  intro i hi
                  obtain ⟨nd, k1, nd', k2, k3⟩ := e3 i hi
                  exact ⟨nd', k2, nd, k1, k3⟩
                let g : Nat → List D := fun i => if hi : i < t.l.length then Classical.choose (hch i hi) else []
                have hg : ∀ i (hi : i < t.l.length), HoldP ver tg c sub t.l[i] (g i) ∧ ∃ nd, dss[i]? = some nd ∧ Imp nd (g i) := by
                  intro i hi
                  simp only [g, dif_pos hi]
                  exact Classical.choose_spec (hch i hi)
                refine ⟨dss, (List.range t.l.length).map (fun i => .agg (g i)), e1, e2, by simp, ?_, fun i hi => ⟨g i, by simp [hi], by rw [att_get hi]; exact (hg i hi).1⟩⟩
                refine imp_list (by simp [e2]) (fun i x y hx hy => ?_)
                simp only [List.getElem?_map, Option.map_eq_some_iff] at hx hy
                obtain ⟨nd, hnd, rfl⟩ := hx
                obtain ⟨j, hj, rfl⟩ := hy
                have hi : i < t.l.length := by rw [← e2]; exact (List.getElem?_eq_some_iff.1 hnd).1
                have hji : j = i := by
                  rw [List.getElem?_range hi] at hj
                  simpa using hj.symm
                subst hji
                obtain ⟨_, nd', hnd', him⟩ := hg j hi
                rw [hnd] at hnd'
                simp only [Option.some.injEq] at hnd'
                subst hnd'
                simp only [elD, if_true]
                refine Imp.one (fun ok w cs hr => ?_)
                simp only [Rep] at hr ⊢
                exact him ok w cs hr
              · cases g7
            · simp only [h10, if_false, decide_false] at g4 g5 g6 ⊢
              subst g4
              obtain ⟨⟨h11', h7⟩, hv⟩ := hpr h10
              have hb := isPrim_out g6
              subst hb
              obtain ⟨dss, e1, e2, e3⟩ := rdRow_ok [.prim (rpV of (-1) ver c) 0] (litsD dfl) (wVal of c false (wPart ver c sub)) (fun x nd => nd = [valK of (-1) x]) t.l (fun x hx s => by
                obtain ⟨nd, d, k1, k2, k3, k4, k5, k6⟩ := rdP_ok of (-1) ver c x (wPart ver c sub) s (hv x hx) (by omega) (by omega) h10
                have hd : d = valK of (-1) x ∨ of = 9 := by
                  unfold HoldV at k4
                  split at k4
                  · rename_i hh; exact .inr hh.1
                  · exact .inl k4
                have hnd := k6 h7
                simp only [rdAs_one, rdA]
                have e : (x.nul && decide ((0 : Int) ≤ -1) && decide ((-1 : Int) ≤ ver)) = false := by simp
                rw [e] at k1
                rw [k1]
                simp only [Option.bind_some]
                have hput := putD_in (a := []) (m := litsD dfl) (b := []) (new := nd) (fun d hd => by cases hd) (unit_pos (unit_lits _)) (by rw [g5, k2]; simp [shE, h10])
                simp only [D.widths, List.nil_append, List.append_nil] at hput
                rw [hput]
                refine ⟨nd, rfl, ?_⟩
                rcases hd with hd | hd
                · rw [hnd, hd]
                · subst hd
                  have : rdP (rpV 9 (-1) ver c) (wVal 9 c false (wPart ver c sub) x ++ s) = some ([.sq (x.s.map byteD)], s) := by
                    have hs := hv x hx (.inr rfl)
                    have hwh := whole_of hs
                    have er : rpV 9 (-1) ver c = (if c then .cbytes else .bytes) := by simp [rpV]
                    rw [er]
                    cases c
                    · simp only [wVal, counted]
                      simp [rdP, hwh]
                      rw [intP_be .i32 4 32 rfl rfl]
                      have hw : IntKind.i32.wrap (x.s.length : Int) = x.s.length := by rw [IntKind.wrap_i32]; omega
                      simp only [Option.bind_some, hw]
                      rw [if_neg (by omega), spanP_app _ _ _ rfl]; rfl
                    · simp only [wVal, counted]
                      simp [rdP, hwh]
                      rw [uvarP_uvar _ _ (by omega)]
                      simp only [Option.bind_some]
                      rw [if_neg (by omega), spanP_app _ _ _ (by omega)]; rfl
                  rw [this] at k1
                  simp only [Option.some.injEq, Prod.mk.injEq, and_true] at k1
                  rw [← k1]
                  simp [valK]) s
              refine ⟨dss, t.l.map (valK of (-1)), e1, e2, by simp, ?_, rfl⟩
              refine imp_list (by simp [e2]) (fun i x y hx hy => ?_)
              simp only [List.getElem?_map, Option.map_eq_some_iff] at hx hy
              obtain ⟨nd, hnd, rfl⟩ := hx
              obtain ⟨z, hz, rfl⟩ := hy
              have hi : i < t.l.length := (List.getElem?_eq_some_iff.1 hz).1
              obtain ⟨nd', h1, h2⟩ := e3 i hi
              rw [hnd] at h1
              simp only [Option.some.injEq] at h1
              subst h1
              rw [List.getElem?_eq_getElem hi] at hz
              simp only [Option.some.injEq] at hz
              subst hz
              subst h2
              simp only [elD, Bool.false_eq_true, if_false]
              exact Imp.refl _
          -- the count
          have hpos : ∀ x ∈ t.l, 1 ≤ (wVal of c false (wPart ver c sub) x).length := by
            intro x hx
            by_cases h10 : of = 10
            · simp only [h10, if_true, Bool.and_eq_true] at g6
              have := wPart_pos ver c sub x g6.1
              simpa [h10, wVal] using this
            · exact wVal_pos _ _ _ _ _ h10
          have hfl := flatMap_len (wVal of c false (wPart ver c sub)) t.l hpos
          intro pre mid post s hsh hpre hmid hw
          have shx : shF tg (.mk 11 fr upto nul tag df of sub) = [.sl] := by simp [shF]
          rw [shx] at hsh ⊢
          obtain ⟨dss, els, e1, e2, e3, e4, e5⟩ := hel s
          obtain ⟨nulb, hnb⟩ : ∃ nulb, (t.nul && decide (0 ≤ nul) && decide (nul ≤ ver)) = nulb := ⟨_, rfl⟩
          rw [hnb]
          have hput : ∀ d : D, shD d = [.sl] → putD (pre ++ mid ++ post) o [d] = some (pre ++ [d] ++ post) := by
            intro d hd
            subst hw
            exact putD_in (unit_pos hpre) (unit_pos hmid) (by rw [hsh]; simp [shDs, hd])
          have fin : ∀ d d', rowP c nb st dfl body ((counted c nulb (if nulb then [] else things t.l).length 4 ++ (if nulb then [] else things t.l).flatMap (wVal of c false (wPart ver c sub))) ++ s) = some (d, s) → shD d = [.sl] → shD d' = [.sl] → d.width = 1 → d'.width = 1 → HoldF ver tg c (.mk 11 fr upto nul tag df of sub) t [d'] → Imp [d] [d'] →
              ∃ new new', rdAs (.row c nb o st dfl body :: rr) (pre ++ mid ++ post) ((counted c nulb (if nulb then [] else things t.l).length 4 ++ (if nulb then [] else things t.l).flatMap (wVal of c false (wPart ver c sub))) ++ s) = rdAs rr (pre ++ new ++ post) s ∧ shDs new = [.sl] ∧ unit new ∧ HoldF ver tg c (.mk 11 fr upto nul tag df of sub) t new' ∧ shDs new' = [.sl] ∧ pos new' ∧ Imp new new' := by
            intro d d' k1 k2 k3 k4 k5 k6 k7
            refine ⟨[d], [d'], ?_, by simp [shDs, k2], fun x hx => by simp at hx; subst hx; exact k4, k6, by simp [shDs, k3], fun x hx => by simp at hx; subst hx; rw [k5]; omega, k7⟩
            simp only [rdAs]
            rw [rdA_row, k1]
            simp only [Option.bind_some]
            rw [hput d k2]
            rfl
          cases nulb with
          | true =>
            simp only [Bool.and_eq_true, decide_eq_true_eq] at hnb
            have hnbt : nb = true := by rw [g2]; simp [hnb.1.2, hnb.2]
            refine fin (.sl true []) (.sl true []) ?_ rfl rfl rfl rfl ((hH _).2 ⟨_, rfl, .inl ⟨hnb.1.2, hnb.1.1, rfl⟩⟩) (Imp.refl _)
            simp only [if_true, List.length_nil, List.flatMap_nil, List.append_nil]
            rw [rowP, lenP_ok c true 0 s (by omega) (.inl rfl)]
            simp [rdRow, hnbt]
          | false =>
            have hnn : ¬ (0 ≤ nul ∧ t.nul = true) := by
              rintro ⟨a1, a2⟩
              have a3 := hnul a1 a2
              rw [a2] at hnb
              simp [a1, a3] at hnb
            have hrow : rowP c nb st dfl body ((counted c false t.l.length 4 ++ t.l.flatMap (wVal of c false (wPart ver c sub))) ++ s) = some (if nb then .sl false (dss.map (elD st)) else .sq (dss.map (elD st)), s) := by
              rw [rowP, List.append_assoc, lenP_ok c false t.l.length _ hlen (.inr (by rw [List.length_append]; omega))]
              simp only [Bool.false_eq_true, if_false, Option.bind_some, Int.toNat_natCast]
              rw [e1]
              simp only [Option.map_some]
              rw [if_neg (by omega : ¬ ((t.l.length : Int) < 0))]
            have hlm : (dss.map (elD st)).length = els.length := by simp [e2, e3]
            simp only [Bool.false_eq_true, if_false, hth] at fin ⊢
            cases hnb2 : nb with
            | true =>
              rw [hnb2] at hrow
              rw [hnb2] at fin
              exact fin _ (.sl false els) hrow rfl rfl rfl rfl ((hH _).2 ⟨_, rfl, .inr ⟨hnn, rfl, rfl, false, els, rfl, fun _ _ => rfl, e3, e5⟩⟩) (imp_sl hlm e4)
            | false =>
              rw [hnb2] at hrow g2
              rw [hnb2] at fin
              refine fin _ (.sq els) hrow rfl rfl rfl rfl ((hH _).2 ⟨_, rfl, .inr ⟨hnn, rfl, rfl, false, els, rfl, fun a1 a2 => ?_, e3, e5⟩⟩) (imp_sq hlm e4)
              simp [a1, a2] at g2
      · cases h
    · simp only [h11, if_false] at h hfit hH ⊢
      by_cases h10 : kind = 10
      · simp only [h10, if_true] at h hfit hH ⊢
        by_cases hn : 0 ≤ nul
        · simp only [hn, if_true] at h
          cases h
        · simp only [hn, if_false, and_false] at h hH ⊢
          split at h
          · rename_i r1 hr1
            have hR := reads_part htg (mFs_ok ver tg flex htg sub a r1 off hr1 0 t hfit.1) h hfit
            have es : shF tg (.mk 10 fr upto nul tag df of sub) = shP tg sub := by simp [shF, hn, shP]
            rw [es]
            simp only [wVal]
            exact hR.weak (fun ds hd => (hH ds).2 hd)
          · cases h
      · simp only [h10, if_false, false_and] at h hfit hH ⊢
        split at h
        · rename_i p o rr
          cases hb : rpEq p (rpV kind nul ver flex) && Nat.beq o off with
          | false => rw [hb] at h; cases h
          | true =>
            rw [hb] at h
            simp only [cond_true, Option.some.injEq] at h
            subst h
            rw [Bool.and_eq_true] at hb
            have := rpEq_out hb.1; subst this
            have := beq_out hb.2; subst this
            have es : shF tg (.mk kind fr upto nul tag df of sub) = shV kind nul := by simp [shF, h11, h10]
            rw [es]
            intro pre mid post s hsh hpre hmid hw
            obtain ⟨nd, d, k1, k2, k3, k4, k5, _⟩ := rdP_ok kind nul ver flex t (wPart ver flex sub) s hfit hnul h8 h10
            have hsd : shDs [d] = shV kind nul := by
              unfold HoldV at k4
              split at k4
              · rename_i hh
                rw [hh.1]
                simp [shDs, k4.2.1, shV]
              · rw [k4]; simp only [shDs, List.append_nil, sh_valK]
            refine ⟨nd, [d], ?_, k2, k3, (hH _).2 ⟨d, rfl, k4⟩, hsd, fun x hx => ?_, k5⟩
            · simp only [rdAs, rdA]
              rw [k1]
              simp only [Option.bind_some]
              subst hw
              rw [putD_in (unit_pos hpre) (unit_pos hmid) (by rw [hsh, k2])]
              rfl
            · simp at hx; subst hx
              have h1 : (shDs [x]).length = (shV kind nul).length := by rw [hsd]
              rw [shs_width] at h1
              simp only [D.widths, Nat.add_zero] at h1
              rw [h1]
              unfold shV
              repeat' split
              all_goals simp
        · cases h
theorem mFs_ok (ver : Int) (tg flex : Bool) (htg : flex = true → tg = true) : ∀ (fs : List Fld) (a r : List Ra) (off : Nat), mFs ver tg flex off fs a = some r → ∀ i t, FitFs ver fs i t → Reads ver tg flex (shFs tg fs) (HoldFs ver tg flex fs i t) a r off (wFs ver flex fs i t)
  | [], a, r, off, h, i, t, hfit => by
    simp only [mFs, Option.some.injEq] at h
    subst h
    intro pre mid post s hsh hpre hmid hw
    have : mid = [] := by
      have := unit_len hmid
      rw [hsh] at this
      exact List.length_eq_zero_iff.1 this.symm
    subst this
    exact ⟨[], [], by simp [wFs], rfl, hmid, by simp [HoldFs], rfl, (fun d hd => by cases hd), Imp.refl _⟩
  | f :: fs, a, r, off, h, i, t, hfit => by
    simp only [mFs] at h
    simp only [FitFs] at hfit
    obtain ⟨htag, hff, hrest⟩ := hfit
    split at h
    · rename_i b hb
      have h2 := mFs_ok ver tg flex htg fs b r (off + (shF tg f).length) h (i + 1) t hrest
      have key : Reads ver tg flex (shF tg f) (fun ds => f.has ver = true → HoldF ver tg flex f (att t i) ds) a b off (if f.tag < 0 ∧ f.has ver = true then wField ver flex f (att t i) else []) := by
        by_cases hx : f.has ver = true
        · rw [if_pos hx] at hb
          rw [if_pos ⟨htag, hx⟩]
          exact (mF_ok ver tg flex htg f a b off hb (att t i) (hff hx)).weak (fun ds hd _ => hd)
        · rw [if_neg hx] at hb
          rw [if_neg (fun e => hx e.2)]
          simp only [Option.some.injEq] at hb
          subst hb
          intro pre mid post s hsh hpre hmid hw
          exact ⟨mid, mid, by simp, hsh, hmid, fun e => absurd e hx, hsh, unit_pos hmid, Imp.refl _⟩
      have := reads_app key h2
      simp only [wFs, shFs]
      exact this.weak (fun ds ⟨x, y, e1, e2, e3, e4, e5⟩ => by simp only [HoldFs]; exact ⟨x, y, e1, e4, e5, e2, e3⟩)
    · cases h
end
/-- What is read of a written struct. -/
theorem mP_ok {ver : Int} {tg flex : Bool} (htg : flex = true → tg = true) {fs : List Fld} {a r : List Ra} {off : Nat} (h : mP ver tg flex off fs a = some r) {t : Tree} (hf : FitT ver fs t) : Reads ver tg flex (shP tg fs) (HoldP ver tg flex fs t) a r off (wPart ver flex fs t) := by
  unfold mP at h
  split at h
  · rename_i b hb
    exact reads_part htg (mFs_ok ver tg flex htg fs a b off hb 0 t hf.1) h hf
  · cases h
end Go.Proofs.YtgblofcjkgbojaaDoor

/- Reading a whole message: checked by reckoning, told in the reference's words. Over any program. -/
namespace Go.Proofs.YtgblofcjkgbojaaDoor
open Go Go.RowKit

def isVer (ver : Int) (v : Value) : Bool := match v with
  | .int .i16 n => decide (n = ver) && decide (IntKind.i16.wrap n = n)
  | _ => false
def headVer (ver : Int) : List Value → Bool
  | v :: _ => isVer ver v
  | [] => false
/-- Does this function read this message at this version? -/
def readOk (P : Program) (K : Kr) (f : Nat) (ver : Int) (tg flex : Bool) (fs : List Fld) (cs : List Value) : Bool := match readF P K f cs with
  | some x => headVer ver x.1 && decide (shDs (litsD x.1) = .int .i16 :: shP tg fs) && endsA (mP ver tg flex 1 fs x.2)
  | none => false
where endsA : Option (List Ra) → Bool
  | some [] => true
  | _ => false
theorem read_ok {P : Program} {K : Kr} {g : Nat} {ev : Value} {w : World} (hK : KrOk P K g ev) (hT : KrTy P K) {f : Nat} {ver : Int} {tg flex : Bool} (htg : flex = true → tg = true) {fs : List Fld} {cs : List Value} (h : readOk P K f ver tg flex fs cs = true) {t : Tree} (hf : FitT ver fs t)
    {b sb : Nat} {e : TypeId} {v : Value} (hb : Box w b cs e) (hv : SrcAt w sb v (wPart ver flex fs t)) (hsb : sb < w.heap.size) (hne : b ≠ sb) (hg : w.cell? ⟨g, 0, none⟩ = some ev) (hgb : g ≠ b) (hgl : g < w.heap.size) :
    isFn P f = true ∧ Calls P f #[.pointer (some ⟨b, 0, none⟩), v, .bool false] w fun en w' => en = .returned .nilIface ∧ ∃ cs' lo new, w.heap.size ≤ lo ∧ Box w' b cs' e ∧ Reps (Dk sb lo w') w' (.lit (.int .i16 ver) :: new) cs' ∧ HoldP ver tg flex fs t new ∧ Chg (fun j => j = b ∨ w.heap.size ≤ j) w w' := by
  unfold readOk at h
  split at h
  · rename_i x hx
    simp only [Bool.and_eq_true, decide_eq_true_eq] at h
    obtain ⟨⟨h1, h2⟩, h3⟩ := h
    have hm : mP ver tg flex 1 fs x.2 = some [] := by
      unfold readOk.endsA at h3
      split at h3
      · assumption
      · cases h3
    obtain ⟨rest, hdfl⟩ : ∃ rest, x.1 = .int .i16 ver :: rest := by
      unfold headVer at h1
      split at h1
      · rename_i v0 r hx1
        unfold isVer at h1
        split at h1
        · rename_i n
          simp only [Bool.and_eq_true, decide_eq_true_eq] at h1
          exact ⟨r, by rw [hx1, h1.1]⟩
        · cases h1
      · cases h1
    have hlit : litsD x.1 = .lit (.int .i16 ver) :: litsD rest := by rw [hdfl]; rfl
    have hsh : shDs (litsD rest) = shP tg fs := by
      rw [hlit] at h2
      simp only [shDs, shD] at h2
      split at h2
      · simpa using h2
      · simp at h2
    obtain ⟨new, new', k1, k2, k3, k4, k5, k6, k7⟩ := mP_ok htg hm hf [.lit (.int .i16 ver)] (litsD rest) [] [] hsh (unit_lits [_]) (unit_lits _) rfl
    simp only [List.append_nil, List.cons_append, List.nil_append] at k1
    have hs : rdAs x.2 (litsD x.1) (wPart ver flex fs t) = some (.lit (.int .i16 ver) :: new, []) := by
      rw [hlit, k1]; simp [rdAs]
    obtain ⟨r1, r2⟩ := readF_ok hK hT (dfl := x.1) (acts := x.2) hx hb hv hsb hne hg hgb hgl hs
    refine ⟨r1, r2.mono (fun en w' he => ?_)⟩
    obtain ⟨e1, cs', lo, e2, e3, e4, e5, e6⟩ := he
    exact ⟨e1, cs', lo, new', e2, e3, Imp.app (Imp.refl [.lit (.int .i16 ver)]) k7 _ _ _ e4, k4, e6⟩
  · cases h
end Go.Proofs.YtgblofcjkgbojaaDoor

/- The fitted tree can be written, and what is written of it is what is written of the tree. No program in sight. -/
namespace Go.Proofs.YtgblofcjkgbojaaDoor
open Go Go.RowKit

mutual
/-- What the package's code asks of a table at a version. -/
def tabF (ver : Int) : Fld → Bool
  | .mk kind _ _ nul _ _ of sub => (!decide (kind = 8) || !decide (0 ≤ nul) || decide (nul ≤ ver)) &&
    (if kind = 11 then (if of = 10 then tabFs ver sub else !decide (of = 11) && !decide (of = 7)) else if kind = 10 then tabFs ver sub else true)
def tabFs (ver : Int) : List Fld → Bool
  | [] => true
  | f :: fs => decide (f.tag < 0) && (!f.has ver || tabF ver f) && tabFs ver fs
end
theorem att_fitL (ver : Int) : ∀ (fs : List Fld) (i0 : Nat) (t t' : Tree) (k : Nat), (∀ j, j < fs.length → att t' (k + j) = (fitL ver fs i0 t).getD j Tree.none) → ∀ j (h : j < fs.length), att t' (k + j) = fitF ver fs[j] (att t (i0 + j)) := by
  intro fs i0 t t' k h j hj
  rw [h j hj, List.getD_eq_getElem?_getD, List.getElem?_eq_getElem (by rw [fitL_length]; exact hj)]
  simp only [Option.getD_some]
  exact fitL_get ver fs i0 t j hj
theorem att_fitP (ver : Int) (fs : List Fld) (t : Tree) (j : Nat) (h : j < fs.length) : att (fitP ver fs t) j = fitF ver fs[j] (att t j) := by
  have := att_fitL ver fs 0 t (fitP ver fs t) 0 (fun j hj => by simp [fitP, att, Tree.l]) j h
  simpa using this
theorem withNull_att (b : Bool) (t : Tree) (i : Nat) : att (t.withNull b) i = att t i := by cases t; rfl
theorem withNull_u (b : Bool) (t : Tree) : (t.withNull b).u = t.u := by cases t; rfl
theorem withNull_nul (b : Bool) (t : Tree) : (t.withNull b).nul = b := by cases t; rfl
theorem wFs_congr (ver : Int) (flex : Bool) : ∀ (fs : List Fld) (i k : Nat) (t t' : Tree), (∀ j (h : j < fs.length), fs[j].has ver = true → wField ver flex fs[j] (att t' (k + j)) = wField ver flex fs[j] (att t (i + j))) → wFs ver flex fs k t' = wFs ver flex fs i t
  | [], _, _, _, _, _ => by simp [wFs]
  | f :: fs, i, k, t, t', h => by
    simp only [wFs]
    have h0 := h 0 (by simp)
    simp only [List.getElem_cons_zero, Nat.add_zero] at h0
    have e : (if f.tag < 0 ∧ f.has ver = true then wField ver flex f (att t' k) else []) = (if f.tag < 0 ∧ f.has ver = true then wField ver flex f (att t i) else []) := by
      split
      · rename_i hh; rw [h0 hh.2]
      · rfl
    rw [e]
    congr 1
    exact wFs_congr ver flex fs (i + 1) (k + 1) t t' (fun j hj hh => by
      have := h (j + 1) (by simpa using hj)
      simp only [List.getElem_cons_succ] at this
      rw [show k + 1 + j = k + (j + 1) by omega, show i + 1 + j = i + (j + 1) by omega]
      exact this hh)
theorem known_zero {fs : List Fld} (h : ∀ f ∈ fs, f.tag < 0) : known fs = 0 := known_none fs 0 h
theorem tab_tags {ver : Int} : ∀ {fs : List Fld}, tabFs ver fs = true → ∀ f ∈ fs, f.tag < 0
  | [], _, f, hf => by cases hf
  | g :: fs, h, f, hf => by
    simp only [tabFs, Bool.and_eq_true, decide_eq_true_eq] at h
    rcases List.mem_cons.1 hf with rfl | hm
    · exact h.1.1
    · exact tab_tags h.2 f hm
theorem tab_at {ver : Int} : ∀ {fs : List Fld}, tabFs ver fs = true → ∀ j (h : j < fs.length), fs[j].has ver = true → tabF ver fs[j] = true
  | [], _, j, hj, _ => by cases hj
  | g :: fs, h, j, hj, hh => by
    simp only [tabFs, Bool.and_eq_true, Bool.or_eq_true, Bool.not_eq_true'] at h
    cases j with
    | zero =>
      simp only [List.getElem_cons_zero] at hh ⊢
      rcases h.1.2 with h1 | h1
      · rw [hh] at h1; cases h1
      · exact h1
    | succ j => exact tab_at h.2 j (by simpa using hj) hh
theorem putTag_end (k : Nat) (v : List UInt8) : ∀ (u : List (Nat × List UInt8)), (∀ kv ∈ u, kv.1 < k) → putTag k v u = u ++ [(k, v)]
  | [], _ => rfl
  | x :: u, h => by
    have := h x (by simp)
    simp only [putTag, if_pos this, putTag_end k v u (fun y hy => h y (by simp [hy])), List.cons_append]
theorem fold_rising : ∀ (u acc : List (Nat × List UInt8)), Rising (acc ++ u) → u.foldl (fun out kv => if kv.1 < 0 then out else putTag kv.1 kv.2 out) acc = acc ++ u
  | [], acc, _ => by simp
  | x :: u, acc, h => by
    simp only [List.foldl_cons, Nat.not_lt_zero, if_false]
    rw [putTag_end x.1 x.2 acc (fun kv hkv => (List.pairwise_append.1 h).2.2 kv hkv x (by simp))]
    have ih := fold_rising u (acc ++ [x]) (by simpa [List.append_assoc] using h)
    simp only [Nat.not_lt_zero, if_false] at ih
    rw [ih]; simp
theorem unknown_self {fs : List Fld} {u : List (Nat × List UInt8)} (hk : known fs = 0) (hr : Rising u) (hl : u.length ≤ Most) : unknown fs u = u := by
  unfold unknown
  rw [List.take_of_length_le hl, hk]
  have := fold_rising u [] (by simpa using hr)
  simpa using this
theorem putTag_len (k : Nat) (v : List UInt8) : ∀ (u : List (Nat × List UInt8)), (putTag k v u).length ≤ u.length + 1
  | [] => by simp [putTag]
  | x :: u => by
    simp only [putTag]
    have := putTag_len k v u
    split
    · simp; omega
    · split <;> simp
theorem unknownLen (fs : List Fld) (u : List (Nat × List UInt8)) : (unknown fs u).length ≤ Most := by
  unfold unknown
  have : ∀ (l out : List (Nat × List UInt8)), (l.foldl (fun out kv => if kv.1 < known fs then out else putTag kv.1 kv.2 out) out).length ≤ out.length + l.length := by
    intro l
    induction l with
    | nil => intro out; simp
    | cons x l ih =>
      intro out
      simp only [List.foldl_cons, List.length_cons]
      split
      · have := ih out; omega
      · have := ih (putTag x.1 x.2 out); have := putTag_len x.1 x.2 out; omega
  have h := this (u.take Most) []
  have : (u.take Most).length ≤ Most := by simp; omega
  simp only [List.length_nil] at h
  omega
theorem whole_whole (s : List UInt8) : whole (whole s) = whole s := by simp [whole, List.take_take]
theorem whole_len (s : List UInt8) : (whole s).length ≤ Most := by simp [whole]; omega
theorem others_rising (fs : List Fld) (u : List (Nat × List UInt8)) : Rising (others fs u) := by
  unfold others Rising
  exact List.pairwise_map.2 (unknown_rising fs u)
theorem others_self {fs : List Fld} (hk : known fs = 0) (u : List (Nat × List UInt8)) : unknown fs (others fs u) = others fs u := unknown_self hk (others_rising fs u) (by simp [others, unknownLen])
theorem allTags_fit {ver : Int} {flex : Bool} {fs : List Fld} (hk : known fs = 0) (t t' : Tree) (h : t'.u = others fs t.u) : allTags ver flex fs t' = allTags ver flex fs t := by
  unfold allTags
  rw [hk, h, others_self hk]
  simp only [List.range_zero, List.flatMap_nil, List.nil_append, others, List.map_map]
  refine List.map_congr_left (fun kv _ => ?_)
  simp [whole_whole]
theorem fitVal_w (kind : Int) (flex : Bool) (p q : Tree → Tree) (wp : Tree → List UInt8) (null : Bool) (t : Tree) (h10 : kind = 10 → wp ((p t).withNull null) = wp t) : wVal kind flex null wp (fitVal kind null p t) = wVal kind flex null wp t := by
  unfold fitVal
  by_cases h8 : kind = 8 ∨ kind = 9
  · rw [if_pos h8]
    rcases h8 with rfl | rfl <;> simp [wVal, Tree.s, whole_whole]
  · rw [if_neg h8]
    by_cases h : kind = 10
    · rw [if_pos h]; subst h; simp only [wVal]; simpa using h10 rfl
    · rw [if_neg h]
      have h8' : kind ≠ 8 := fun e => h8 (.inl e)
      have h9' : kind ≠ 9 := fun e => h8 (.inr e)
      simp [wVal, h8', h9', h, Tree.n, Tree.s]
theorem fitVal_nul (kind : Int) (null : Bool) (p : Tree → Tree) (t : Tree) (h : kind = 8 ∨ kind = 9 ∨ kind = 10) : (fitVal kind null p t).nul = null := by
  unfold fitVal
  rcases h with rfl | rfl | rfl
  · simp [Tree.nul]
  · simp [Tree.nul]
  · simp [withNull_nul]
theorem fld_null (kind fr upto nul tag df of : Int) (sub : List Fld) (ver : Int) (t : Tree) : (Fld.mk kind fr upto nul tag df of sub).null ver t = (t.nul && decide (0 ≤ nul) && decide (nul ≤ ver)) := rfl
theorem mk_nul (n : Int) (s : List UInt8) (b : Bool) (l : List Tree) (u : List (Nat × List UInt8)) : (Tree.mk n s b l u).nul = b := rfl
theorem mk_l (n : Int) (s : List UInt8) (b : Bool) (l : List Tree) (u : List (Nat × List UInt8)) : (Tree.mk n s b l u).l = l := rfl
theorem wPart_fit_of {ver : Int} {flex : Bool} {fs : List Fld} (ht : ∀ f ∈ fs, f.tag < 0) (h : ∀ j (hj : j < fs.length), fs[j].has ver = true → ∀ x, wField ver flex fs[j] (fitF ver fs[j] x) = wField ver flex fs[j] x) (t : Tree) (b : Bool) :
    wPart ver flex fs ((fitP ver fs t).withNull b) = wPart ver flex fs t := by
  unfold wPart
  have e1 : wFs ver flex fs 0 ((fitP ver fs t).withNull b) = wFs ver flex fs 0 t := wFs_congr ver flex fs 0 0 t _ (fun j hj hh => by
    rw [withNull_att]
    simp only [Nat.zero_add]
    rw [att_fitP ver fs t j hj]
    exact h j hj hh _)
  rw [e1, allTags_fit (known_zero ht) t _ (by rw [withNull_u]; rfl)]
mutual
theorem wField_fit (ver : Int) (flex : Bool) : ∀ (f : Fld), f.tag < 0 → tabF ver f = true → ∀ x, wField ver flex f (fitF ver f x) = wField ver flex f x
  | .mk kind fr upto nul tag df of sub, htag, htab, x => by
    have htag' : ¬ (0 ≤ tag) := by have : tag < 0 := htag; omega
    simp only [tabF, Bool.and_eq_true] at htab
    obtain ⟨h8, htab⟩ := htab
    rw [fitF_eq]
    rw [fld_null]
    simp only [Fld.kind, Fld.tag, Fld.of, Fld.sub]
    by_cases h11 : kind = 11
    · simp only [h11, if_true] at htab ⊢
      rw [wField_mk ver flex 11 fr upto nul tag df of sub _ _ rfl, wField_mk ver flex 11 fr upto nul tag df of sub x _ rfl]
      simp only [htag', decide_false, Bool.false_and, Bool.or_false, mk_nul, mk_l, if_true]
      have en : (x.nul && decide (0 ≤ nul) && decide (nul ≤ ver) && decide (0 ≤ nul) && decide (nul ≤ ver)) = (x.nul && decide (0 ≤ nul) && decide (nul ≤ ver)) := by
        cases x.nul <;> cases decide (0 ≤ nul) <;> cases decide (nul ≤ ver) <;> rfl
      rw [en]
      have el : things ((things x.l).map (fitVal of false (fitP ver sub))) = (things x.l).map (fitVal of false (fitP ver sub)) := things_of (by simp [things]; omega)
      rw [el]
      generalize (x.nul && decide (0 ≤ nul) && decide (nul ≤ ver)) = nb
      cases nb with
      | true => rfl
      | false =>
        simp only [Bool.false_eq_true, if_false, List.length_map, List.flatMap_map]
        congr 1
        refine congrArg (fun g => (things x.l).flatMap g) (funext fun y => ?_)
        refine fitVal_w of flex _ (fitP ver sub) _ false y (fun h10 => ?_)
        rw [if_pos h10] at htab
        exact wFsub_fit ver flex sub htab y false
    · simp only [h11, if_false] at htab ⊢
      rw [wField_mk ver flex kind fr upto nul tag df of sub _ _ rfl, wField_mk ver flex kind fr upto nul tag df of sub x _ rfl]
      simp only [h11, if_false]
      by_cases h10 : kind = 10
      · simp only [h10, if_true] at htab
        subst h10
        rw [fitVal_nul 10 _ _ _ (.inr (.inr rfl))]
        have en : (x.nul && decide (0 ≤ nul) && decide (nul ≤ ver) && decide (0 ≤ nul) && decide (nul ≤ ver)) = (x.nul && decide (0 ≤ nul) && decide (nul ≤ ver)) := by
          cases x.nul <;> cases decide (0 ≤ nul) <;> cases decide (nul ≤ ver) <;> rfl
        rw [en]
        have ew : wPart ver flex sub (fitVal 10 (x.nul && decide (0 ≤ nul) && decide (nul ≤ ver)) (fitP ver sub) x) = wPart ver flex sub x := by
          simp only [fitVal]
          exact wFsub_fit ver flex sub htab x _
        simp only [wVal, ew]
        rfl
      · simp only [h10, false_and, if_false]
        by_cases h89 : kind = 8 ∨ kind = 9
        · rw [fitVal_nul kind _ _ _ (by rcases h89 with h | h; exact .inl h; exact .inr (.inl h))]
          have en : (x.nul && decide (0 ≤ nul) && decide (nul ≤ ver) && decide (0 ≤ nul) && decide (nul ≤ ver)) = (x.nul && decide (0 ≤ nul) && decide (nul ≤ ver)) := by
            cases x.nul <;> cases decide (0 ≤ nul) <;> cases decide (nul ≤ ver) <;> rfl
          rw [en]
          exact fitVal_w kind flex _ (fitP ver sub) _ _ x (fun h => absurd h h10)
        · have a8 : kind ≠ 8 := fun e => h89 (.inl e)
          have a9 : kind ≠ 9 := fun e => h89 (.inr e)
          simp [fitVal, wVal, a8, a9, h10, Tree.n, Tree.s]
theorem wFsub_fit (ver : Int) (flex : Bool) : ∀ (fs : List Fld), tabFs ver fs = true → ∀ (t : Tree) (b : Bool), wPart ver flex fs ((fitP ver fs t).withNull b) = wPart ver flex fs t
  | fs, h, t, b => wPart_fit_of (tab_tags h) (wEach_fit ver flex fs h) t b
theorem wEach_fit (ver : Int) (flex : Bool) : ∀ (fs : List Fld), tabFs ver fs = true → ∀ j (hj : j < fs.length), fs[j].has ver = true → ∀ x, wField ver flex fs[j] (fitF ver fs[j] x) = wField ver flex fs[j] x
  | [], _, j, hj, _ => by cases hj
  | f :: fs, h, j, hj, hh => by
    simp only [tabFs, Bool.and_eq_true, Bool.or_eq_true, Bool.not_eq_true', decide_eq_true_eq] at h
    cases j with
    | zero =>
      intro x
      simp only [List.getElem_cons_zero] at hh ⊢
      refine wField_fit ver flex f h.1.1 ?_ x
      rcases h.1.2 with h1 | h1
      · rw [hh] at h1; cases h1
      · exact h1
    | succ j => exact wEach_fit ver flex fs h.2 j (by simpa using hj) hh
end
end Go.Proofs.YtgblofcjkgbojaaDoor

/- What the walks ask of trees and fields, as plain facts. No Go in sight. -/
namespace Go.Proofs.YtgblofcjkgbojaaDoor

mutual
/-- Lengths and tags within what a machine holds. -/
def Tree.ok : Tree → Prop
  | .mk _ s _ l u => s.length ≤ 9223372036854775807 ∧ (∀ kv ∈ u, kv.1 < 4294967296) ∧ Tree.oks l
def Tree.oks : List Tree → Prop
  | [] => True
  | t :: l => t.ok ∧ Tree.oks l
end
mutual
def Fld.okb : Fld → Bool
  | .mk _ _ _ _ tag _ of sub => decide (tag < 2147483647) && decide (of ≠ 11) && Nat.ble sub.length 1000 && Fld.oksb sub
def Fld.oksb : List Fld → Bool
  | [] => true
  | f :: l => f.okb && Fld.oksb l
end
theorem Tree.oks_mem : ∀ {l : List Tree}, Tree.oks l → ∀ t ∈ l, t.ok
  | [], _, t, h => by cases h
  | x :: l, h, t, ht => by
    simp only [Tree.oks] at h
    rcases List.mem_cons.1 ht with rfl | h1
    · exact h.1
    · exact Tree.oks_mem h.2 t h1
theorem Tree.ok_none : Tree.none.ok := by simp [Tree.none, Tree.ok, Tree.oks]
theorem Tree.ok.at {t : Tree} (h : t.ok) (i : Nat) : (att t i).ok := by
  cases t with
  | mk n s nul l u =>
    simp only [Tree.ok] at h
    unfold att
    by_cases hi : i < l.length
    · have : (Tree.mk n s nul l u).l.getD i Tree.none = l[i] := by simp [Tree.l, hi]
      rw [this]; exact Tree.oks_mem h.2.2 _ (List.getElem_mem _)
    · have : (Tree.mk n s nul l u).l.getD i Tree.none = Tree.none := by simp [Tree.l, List.getD, List.getElem?_eq_none (by omega : l.length ≤ i)]
      rw [this]; exact Tree.ok_none
theorem Tree.ok.s {t : Tree} (h : t.ok) : t.s.length ≤ 9223372036854775807 := by cases t; simp only [Tree.ok] at h; exact h.1
theorem Tree.ok.u {t : Tree} (h : t.ok) : ∀ kv ∈ t.u, kv.1 < 4294967296 := by cases t; simp only [Tree.ok] at h; exact h.2.1
theorem Tree.ok.l {t : Tree} (h : t.ok) : ∀ x ∈ t.l, x.ok := by cases t; simp only [Tree.ok] at h; exact Tree.oks_mem h.2.2
mutual
/-- Lists that are not long. -/
def Tree.small : Tree → Prop
  | .mk _ _ _ l u => (l.length ≤ 1000000000 ∧ u.length ≤ 1000000000) ∧ Tree.smalls l
def Tree.smalls : List Tree → Prop
  | [] => True
  | t :: l => t.small ∧ Tree.smalls l
end
theorem Tree.smalls_mem : ∀ {l : List Tree}, Tree.smalls l → ∀ t ∈ l, t.small
  | [], _, t, h => by cases h
  | x :: l, h, t, ht => by
    simp only [Tree.smalls] at h
    rcases List.mem_cons.1 ht with rfl | h1
    · exact h.1
    · exact Tree.smalls_mem h.2 t h1
theorem Tree.small.lens {t : Tree} (h : t.small) : t.l.length ≤ 1000000000 ∧ t.u.length ≤ 1000000000 := by cases t; simp only [Tree.small] at h; exact h.1
theorem Tree.small.l {t : Tree} (h : t.small) : ∀ x ∈ t.l, x.small := by cases t; simp only [Tree.small] at h; exact Tree.smalls_mem h.2
theorem Fld.oksb_mem : ∀ {l : List Fld}, Fld.oksb l = true → ∀ f ∈ l, f.okb = true
  | [], _, t, h => by cases h
  | x :: l, h, t, ht => by
    simp only [Fld.oksb, Bool.and_eq_true] at h
    rcases List.mem_cons.1 ht with rfl | h1
    · exact h.1
    · exact Fld.oksb_mem h.2 t h1
theorem Fld.okb_tag {f : Fld} (h : f.okb = true) : f.tag < 2147483647 := by
  cases f; simp only [Fld.okb, Bool.and_eq_true, decide_eq_true_eq] at h; exact h.1.1.1
theorem Fld.okb_of {f : Fld} (h : f.okb = true) : f.of ≠ 11 := by
  cases f; simp only [Fld.okb, Bool.and_eq_true, decide_eq_true_eq] at h; exact h.1.1.2
theorem Fld.okb_sub {f : Fld} (h : f.okb = true) : Fld.oksb f.sub = true ∧ f.sub.length ≤ 1000 := by
  cases f; simp only [Fld.okb, Bool.and_eq_true, decide_eq_true_eq] at h; exact ⟨h.2, Nat.le_of_ble_eq_true h.1.2⟩
/-- Fields that the walks speak of. -/
def fsok (fs : List Fld) : Bool := Fld.oksb fs && Nat.ble fs.length 1000
theorem fsok.sub {f : Fld} (h : f.okb = true) : fsok f.sub = true := by
  have := Fld.okb_sub h
  simp only [fsok, Bool.and_eq_true]
  exact ⟨this.1, Nat.ble_eq_true_of_le this.2⟩
theorem fsok.mem {fs : List Fld} (h : fsok fs = true) : ∀ f ∈ fs, f.okb = true := by
  simp only [fsok, Bool.and_eq_true] at h; exact Fld.oksb_mem h.1
theorem fsok.len {fs : List Fld} (h : fsok fs = true) : fs.length ≤ 1000 := by
  simp only [fsok, Bool.and_eq_true] at h; exact Nat.le_of_ble_eq_true h.2
theorem fsok.tag {fs : List Fld} (h : fsok fs = true) : ∀ f ∈ fs, f.tag < 2147483647 := fun f hf => Fld.okb_tag (fsok.mem h f hf)
end Go.Proofs.YtgblofcjkgbojaaDoor

/- The fitted tree can be written. No program in sight. -/
namespace Go.Proofs.YtgblofcjkgbojaaDoor
open Go Go.RowKit

theorem fitU_fit {fs : List Fld} (hk : known fs = 0) {t t' : Tree} (ho : ∀ kv ∈ t.u, kv.1 < 4294967296) (h : t'.u = others fs t.u) : FitU fs t' := by
  have sub : ∀ kv ∈ unknown fs t.u, ∃ x ∈ t.u, x.1 = kv.1 := by
    unfold unknown
    have put : ∀ (k : Nat) (v : List UInt8) (u : List (Nat × List UInt8)), ∀ kv ∈ putTag k v u, kv.1 = k ∨ kv ∈ u := by
      intro k v u
      induction u with
      | nil => intro kv h; simp [putTag] at h; subst h; exact .inl rfl
      | cons x u ih =>
        intro kv h
        simp only [putTag] at h
        split at h
        · rcases List.mem_cons.1 h with rfl | h
          · exact .inr (by simp)
          · rcases ih kv h with h | h
            · exact .inl h
            · exact .inr (by simp [h])
        · split at h
          · exact .inr h
          · rcases List.mem_cons.1 h with rfl | h
            · exact .inl rfl
            · exact .inr h
    have : ∀ (l out : List (Nat × List UInt8)), ∀ kv ∈ l.foldl (fun out kv => if kv.1 < known fs then out else putTag kv.1 kv.2 out) out, (∃ x ∈ l, x.1 = kv.1) ∨ kv ∈ out := by
      intro l
      induction l with
      | nil => intro out kv h; exact .inr h
      | cons x l ih =>
        intro out kv h
        simp only [List.foldl_cons] at h
        rcases ih _ kv h with ⟨y, hy, e⟩ | h
        · exact .inl ⟨y, by simp [hy], e⟩
        · split at h
          · exact .inr h
          · rcases put _ _ _ kv h with h | h
            · exact .inl ⟨x, by simp, h.symm⟩
            · exact .inr h
    intro kv hkv
    rcases this _ _ kv hkv with ⟨x, hx, e⟩ | h
    · exact ⟨x, List.mem_of_mem_take hx, e⟩
    · cases h
  refine ⟨by rw [h, others_self hk], ?_, by rw [h]; simp [others, unknownLen]⟩
  intro kv hkv
  rw [h] at hkv
  simp only [others, List.mem_map] at hkv
  obtain ⟨x, hx, rfl⟩ := hkv
  obtain ⟨y, hy, e⟩ := sub x hx
  have := ho y hy
  exact ⟨by show x.1 < _; omega, whole_len _⟩
theorem fitV_fit (kind : Int) (null : Bool) (p : Tree → Tree) (t : Tree) (h10 : kind ≠ 10) : FitV kind (fitVal kind null p t) := by
  intro h
  unfold fitVal
  rw [if_pos h]
  exact whole_len _
mutual
theorem fitF_ok (ver : Int) : ∀ (f : Fld), f.tag < 0 → tabF ver f = true → ∀ x : Tree, x.ok → FitF ver f (fitF ver f x)
  | .mk kind fr upto nul tag df of sub, htag, htab, x, hx => by
    have htag' : ¬ (0 ≤ tag) := by have : tag < 0 := htag; omega
    simp only [tabF, Bool.and_eq_true] at htab
    obtain ⟨h8, htab⟩ := htab
    have h8' : kind = 8 → 0 ≤ nul → nul ≤ ver := by
      intro e1 e2
      simp [e1, e2] at h8
      exact h8
    have hnn : ∀ b : Bool, b = (x.nul && decide (0 ≤ nul) && decide (nul ≤ ver)) → b = true → nul ≤ ver := by
      intro b e1 e2
      rw [e1] at e2
      simp only [Bool.and_eq_true, decide_eq_true_eq] at e2
      exact e2.2
    rw [fitF_eq]
    rw [fld_null]
    simp only [Fld.kind, Fld.tag, Fld.of, Fld.sub, FitF]
    by_cases h11 : kind = 11
    · simp only [h11, if_true] at htab ⊢
      simp only [htag', decide_false, Bool.false_and, Bool.or_false, mk_nul, mk_l]
      refine ⟨fun _ e => hnn _ rfl e, fun e => by omega, by simp [things]; omega, fun h10 => ?_, fun h10 => ?_⟩
      · rw [if_pos h10] at htab
        intro y hy
        obtain ⟨z, hz, rfl⟩ := List.mem_map.1 hy
        have hzo := hx.l z (List.mem_of_mem_take hz)
        subst h10
        simp only [fitVal]
        exact ⟨fitPart_ok ver sub htab z hzo false, fitU_fit (known_zero (tab_tags htab)) hzo.u (by show ((fitP ver sub z).withNull false).u = _; rw [withNull_u]; rfl)⟩
      · rw [if_neg h10] at htab
        simp at htab
        refine ⟨htab, fun y hy => ?_⟩
        obtain ⟨z, hz, rfl⟩ := List.mem_map.1 hy
        exact fitV_fit of false _ z h10
    · simp only [h11, if_false] at htab ⊢
      by_cases h10 : kind = 10
      · simp only [h10, if_true] at htab ⊢
        refine ⟨fun _ e => ?_, fun e => by omega, ?_, ?_⟩
        · rw [fitVal_nul 10 _ _ _ (.inr (.inr rfl))] at e
          exact hnn _ rfl e
        · simp only [fitVal]
          exact fitPart_ok ver sub htab x hx _
        · exact fitU_fit (known_zero (tab_tags htab)) hx.u (by subst h10; show ((fitP ver sub x).withNull _).u = _; rw [withNull_u]; rfl)
      · simp only [h10, if_false]
        refine ⟨fun _ e => ?_, h8', fitV_fit kind _ _ x h10⟩
        by_cases h89 : kind = 8 ∨ kind = 9
        · rw [fitVal_nul kind _ _ _ (by rcases h89 with h | h; exact .inl h; exact .inr (.inl h))] at e
          exact hnn _ rfl e
        · unfold fitVal at e
          rw [if_neg h89, if_neg h10] at e
          cases e
theorem fitPart_ok (ver : Int) : ∀ (fs : List Fld), tabFs ver fs = true → ∀ (t : Tree), t.ok → ∀ b, FitFs ver fs 0 ((fitP ver fs t).withNull b)
  | fs, h, t, ht, b => fitFs_ok ver fs h 0 _ (fun j hj => ⟨att t j, ht.at j, by rw [withNull_att, Nat.zero_add, att_fitP ver fs t j hj]⟩)
theorem fitFs_ok (ver : Int) : ∀ (fs : List Fld), tabFs ver fs = true → ∀ (i : Nat) (t' : Tree), (∀ j (hj : j < fs.length), ∃ x : Tree, x.ok ∧ att t' (i + j) = fitF ver fs[j] x) → FitFs ver fs i t'
  | [], _, _, _, _ => by simp [FitFs]
  | f :: fs, h, i, t', hall => by
    simp only [tabFs, Bool.and_eq_true, Bool.or_eq_true, Bool.not_eq_true', decide_eq_true_eq] at h
    simp only [FitFs]
    refine ⟨h.1.1, fun hh => ?_, fitFs_ok ver fs h.2 (i + 1) t' (fun j hj => ?_)⟩
    · obtain ⟨x, hx, e⟩ := hall 0 (by simp)
      simp only [Nat.add_zero, List.getElem_cons_zero] at e
      rw [e]
      refine fitF_ok ver f h.1.1 ?_ x hx
      rcases h.1.2 with h1 | h1
      · rw [hh] at h1; cases h1
      · exact h1
    · obtain ⟨x, hx, e⟩ := hall (j + 1) (by simpa using hj)
      exact ⟨x, hx, by rw [show i + 1 + j = i + (j + 1) by omega, e]; simp⟩
end
/-- The fitted tree can be written; it is written as the tree is. -/
theorem fitt_ok {ver : Int} {fs : List Fld} (h : tabFs ver fs = true) {t : Tree} (ht : t.ok) (flex : Bool) : FitT ver fs ((fitP ver fs t).withNull false) ∧ wPart ver flex fs ((fitP ver fs t).withNull false) = wPart ver flex fs t :=
  ⟨⟨fitPart_ok ver fs h t ht false, fitU_fit (known_zero (tab_tags h)) ht.u (by rw [withNull_u]; rfl)⟩, wFsub_fit ver flex fs h t false⟩
end Go.Proofs.YtgblofcjkgbojaaDoor

/- How long what is written is at the most: so many octets for each value and letter of the tree. No Go in sight. -/
namespace Go.Proofs.YtgblofcjkgbojaaDoor

def tagsW (u : List (Nat × List UInt8)) : Nat := (u.map fun kv => kv.2.length + 1).sum
mutual
/-- All values and letters of a tree. -/
def Tree.wt : Tree → Nat
  | .mk _ s _ l u => 1 + s.length + tagsW u + Tree.wts l
def Tree.wts : List Tree → Nat
  | [] => 0
  | t :: l => t.wt + Tree.wts l
end
mutual
def Fld.cost : Fld → Nat
  | .mk _ _ _ _ _ _ _ sub => 60 + ((1 + known sub) * Fld.costs sub + 60)
def Fld.costs : List Fld → Nat
  | [] => 0
  | f :: l => f.cost + 30 + Fld.costs l
end
/-- What a part costs. -/
def partCost (fs : List Fld) : Nat := (1 + known fs) * Fld.costs fs + 60
theorem Tree.wt_pos (t : Tree) : 1 ≤ t.wt := by cases t; simp only [Tree.wt]; omega
theorem wts_mem : ∀ {l : List Tree} {t : Tree}, t ∈ l → t.wt ≤ Tree.wts l
  | x :: l, t, h => by
    simp only [Tree.wts]
    rcases List.mem_cons.1 h with rfl | h1
    · omega
    · have := wts_mem h1; omega
theorem wts_take : ∀ (l : List Tree) (n : Nat), Tree.wts (l.take n) ≤ Tree.wts l
  | [], n => by simp
  | x :: l, 0 => by simp [Tree.wts]
  | x :: l, n + 1 => by simp only [List.take_succ_cons, Tree.wts]; have := wts_take l n; omega
theorem att_wt (t : Tree) (i : Nat) : (att t i).wt ≤ t.wt := by
  cases t with
  | mk n s nul l u =>
    unfold att
    by_cases hi : i < l.length
    · have e : (Tree.mk n s nul l u).l.getD i Tree.none = l[i] := by simp [Tree.l, hi]
      rw [e]
      have := wts_mem (List.getElem_mem hi)
      simp only [Tree.wt]; omega
    · have e : (Tree.mk n s nul l u).l.getD i Tree.none = Tree.none := by simp [Tree.l, List.getD, List.getElem?_eq_none (by omega : l.length ≤ i)]
      rw [e]
      simp only [Tree.none, Tree.wt, tagsW, Tree.wts]; simp; omega
theorem s_wt (t : Tree) : t.s.length + 1 ≤ t.wt := by cases t; simp only [Tree.wt, Tree.s]; omega
theorem l_wt (t : Tree) : Tree.wts t.l + 1 ≤ t.wt := by cases t; simp only [Tree.wt, Tree.l]; omega
theorem u_wt (t : Tree) : tagsW t.u + 1 ≤ t.wt := by cases t; simp only [Tree.wt, Tree.u]; omega

theorem uvar_le6 (n : Nat) (h : n < 34359738368) : (uvar n).length ≤ 6 := by
  rw [uvar]; split
  · simp
  · rw [uvar]; split
    · simp
    · rw [uvar]; split
      · simp
      · rw [uvar]; split
        · simp
        · rw [uvar]; split
          · simp
          · omega
theorem be_len : ∀ (k : Nat) (n : Int), (be k n).length = k
  | 0, _ => rfl
  | k + 1, n => by simp only [be, List.length_cons, be_len k n]
theorem counted_le (flex null : Bool) (n size : Nat) (hn : n ≤ 1000000) (hs : size ≤ 8) : (counted flex null n size).length ≤ 8 := by
  unfold counted
  split
  · split
    · simp
    · exact Nat.le_trans (uvar_le6 _ (by omega)) (by omega)
  · split <;> rw [be_len] <;> exact hs
theorem whole_le (s : List UInt8) : (whole s).length ≤ s.length ∧ (whole s).length ≤ 32767 := by
  unfold whole Most; rw [List.length_take]; omega
theorem width8 (k : Int) : width k ≤ 8 := by
  unfold width
  split
  · omega
  · split
    · omega
    · split <;> omega
theorem wVal_le (kind : Int) (flex null : Bool) (p : Tree → List UInt8) (t : Tree) (c : Nat) (hp : (p t).length ≤ c * t.wt) : (wVal kind flex null p t).length ≤ (c + 24) * t.wt := by
  have h1 := t.wt_pos
  have hs := s_wt t
  have hw := whole_le t.s
  have hif : (if null then ([] : List UInt8) else whole t.s).length ≤ t.s.length ∧ (if null then ([] : List UInt8) else whole t.s).length ≤ 32767 := by
    cases null
    · exact hw
    · simp
  have hmul : (c + 24) * t.wt = c * t.wt + 24 * t.wt := by rw [Nat.add_mul]
  unfold wVal
  split
  · simp; omega
  · split
    · simp only [sixteen, List.length_take]; omega
    · split
      · have := counted_le flex null (if null then ([] : List UInt8) else whole t.s).length 2 (by omega) (by omega)
        rw [List.length_append]; omega
      · split
        · have := counted_le flex null (if null then ([] : List UInt8) else whole t.s).length 4 (by omega) (by omega)
          rw [List.length_append]; omega
        · split
          · omega
          · rw [be_len]
            have := width8 kind
            omega

/-- The tags' octets. -/
def tagsB (l : List (Nat × List UInt8)) : Nat := (l.map fun kv => (wTag kv.1 kv.2).length).sum
theorem tagsB_append (a b : List (Nat × List UInt8)) : tagsB (a ++ b) = tagsB a + tagsB b := by simp [tagsB]
theorem flat_tagsB (l : List (Nat × List UInt8)) : (l.flatMap fun kv => wTag kv.1 kv.2).length = tagsB l := by
  induction l with
  | nil => rfl
  | cons a l ih => simp [tagsB]
theorem tagsW_append (a b : List (Nat × List UInt8)) : tagsW (a ++ b) = tagsW a + tagsW b := by simp [tagsW]
theorem putTag_W (k : Nat) (v : List UInt8) (l : List (Nat × List UInt8)) : tagsW (putTag k v l) ≤ tagsW l + v.length + 1 := by
  induction l with
  | nil => simp [putTag, tagsW]
  | cons a l ih =>
    simp only [putTag]
    split
    · simp only [tagsW, List.map_cons, List.sum_cons] at *; omega
    · split
      · omega
      · simp only [tagsW, List.map_cons, List.sum_cons]; omega
theorem unknown_W (fs : List Fld) (u : List (Nat × List UInt8)) : tagsW (unknown fs u) ≤ tagsW u := by
  have gen : ∀ (l out : List (Nat × List UInt8)), tagsW (l.foldl (fun out kv => if kv.1 < known fs then out else putTag kv.1 kv.2 out) out) ≤ tagsW out + tagsW l := by
    intro l
    induction l with
    | nil => intro out; simp [tagsW]
    | cons a l ih =>
      intro out
      have h1 := ih (if a.1 < known fs then out else putTag a.1 a.2 out)
      have h2 : tagsW (if a.1 < known fs then out else putTag a.1 a.2 out) ≤ tagsW out + a.2.length + 1 := by
        split
        · omega
        · exact putTag_W _ _ _
      simp only [List.foldl_cons]
      simp only [tagsW, List.map_cons, List.sum_cons] at *
      omega
  have ht : tagsW (u.take Most) ≤ tagsW u := by
    have : tagsW u = tagsW (u.take Most) + tagsW (u.drop Most) := by rw [← tagsW_append, List.take_append_drop]
    omega
  have h0 : tagsW ([] : List (Nat × List UInt8)) = 0 := rfl
  have := gen (u.take Most) []
  unfold unknown
  omega
theorem putTag_key (k : Nat) (v : List UInt8) (l : List (Nat × List UInt8)) : ∀ x ∈ putTag k v l, x = (k, v) ∨ x ∈ l := by
  induction l with
  | nil => intro x hx; simp [putTag] at hx; exact .inl hx
  | cons a l ih =>
    intro x hx
    simp only [putTag] at hx
    split at hx
    · rcases List.mem_cons.1 hx with rfl | h
      · exact .inr (by simp)
      · rcases ih x h with h | h
        · exact .inl h
        · exact .inr (by simp [h])
    · split at hx
      · exact .inr hx
      · rcases List.mem_cons.1 hx with rfl | h
        · exact .inl rfl
        · exact .inr h
theorem unknown_in (fs : List Fld) (u : List (Nat × List UInt8)) : ∀ x ∈ unknown fs u, x ∈ u := by
  have gen : ∀ (l out : List (Nat × List UInt8)), ∀ x ∈ l.foldl (fun out kv => if kv.1 < known fs then out else putTag kv.1 kv.2 out) out, x ∈ out ∨ x ∈ l := by
    intro l
    induction l with
    | nil => intro out x hx; exact .inl hx
    | cons a l ih =>
      intro out x hx
      rcases ih _ x hx with h | h
      · simp only [] at h
        split at h
        · exact .inl h
        · rcases putTag_key _ _ _ x h with rfl | h
          · exact .inr (by simp)
          · exact .inl h
      · exact .inr (by simp [h])
  intro x hx
  rcases gen (u.take Most) [] x hx with h | h
  · cases h
  · exact List.mem_of_mem_take h
theorem others_le (fs : List Fld) (t : Tree) (hok : t.ok) : tagsB (others fs t.u) ≤ 14 * t.wt := by
  have h1 := unknown_W fs t.u
  have h2 := u_wt t
  have h3 : tagsB (others fs t.u) ≤ 13 * tagsW (unknown fs t.u) := by
    have gen : ∀ l : List (Nat × List UInt8), (∀ kv ∈ l, kv.1 < 4294967296) → tagsB (l.map fun kv => (kv.1, whole kv.2)) ≤ 13 * tagsW l := by
      intro l
      induction l with
      | nil => intro _; simp [tagsB]
      | cons a l ih =>
        intro h
        have := ih (fun x hx => h x (by simp [hx]))
        have ha := uvar_le6 a.1 (by have := h a (by simp); omega)
        have hb := uvar_le6 (whole a.2).length (by have := (whole_le a.2).2; omega)
        have hc := (whole_le a.2).1
        simp only [tagsB, tagsW, List.map_cons, List.sum_cons, wTag, List.length_append] at *
        omega
    exact gen _ (fun kv hkv => hok.u kv (unknown_in fs t.u kv hkv))
  omega

theorem things_le (g : Tree → List UInt8) (c : Nat) : ∀ (l : List Tree), (∀ x ∈ l, (g x).length ≤ c * x.wt) → (l.flatMap g).length ≤ c * Tree.wts l
  | [], _ => by simp
  | x :: l, h => by
    have h1 := h x (by simp)
    have h2 := things_le g c l (fun y hy => h y (by simp [hy]))
    simp only [List.flatMap_cons, List.length_append, Tree.wts, Nat.mul_add]; omega
end Go.Proofs.YtgblofcjkgbojaaDoor

/- How long what is written is at the most: whatever is said; and by the values and letters of the tree. No Go in sight. -/
namespace Go.Proofs.YtgblofcjkgbojaaDoor

theorem uvar_le1 (n : Nat) : (uvar n).length ≤ n + 1 := by
  induction n using Nat.strongRecOn with
  | _ n ih =>
    rw [uvar]; split
    · simp
    · have := ih (n / 128) (by omega)
      simp only [List.length_cons]; omega
theorem uvar_few (a b : Nat) (h : b ≤ 32767) : (uvar (a + b)).length ≤ a + 258 := by
  rw [uvar]; split
  · simp
  · have := uvar_le1 ((a + b) / 128)
    simp only [List.length_cons]; omega
/-- Tags with their octets, one more for each. -/
def tagsC (l : List (Nat × List UInt8)) : Nat := (l.map fun kv => 1 + (wTag kv.1 kv.2).length).sum
theorem tagsC_eq (l : List (Nat × List UInt8)) : tagsC l = l.length + tagsB l := by
  induction l with
  | nil => rfl
  | cons a l ih => simp only [tagsC, tagsB, List.map_cons, List.sum_cons, List.length_cons] at *; omega
theorem tagsC_append (a b : List (Nat × List UInt8)) : tagsC (a ++ b) = tagsC a + tagsC b := by simp [tagsC]
theorem tagsC_range (g : Nat → List (Nat × List UInt8)) (M : Nat) : ∀ n, (∀ k, tagsC (g k) ≤ M) → tagsC ((List.range n).flatMap g) ≤ n * M
  | 0, _ => by simp [tagsC]
  | n + 1, h => by
    rw [List.range_succ, List.flatMap_append, tagsC_append, Nat.succ_mul]
    have := tagsC_range g M n h
    have := h n
    simp only [List.flatMap_cons, List.flatMap_nil, List.append_nil]; omega
theorem unknown_few (fs : List Fld) (u : List (Nat × List UInt8)) : (unknown fs u).length ≤ 32767 := by
  have put : ∀ (k : Nat) (v : List UInt8) (l : List (Nat × List UInt8)), (putTag k v l).length ≤ l.length + 1 := by
    intro k v l
    induction l with
    | nil => simp [putTag]
    | cons a l ih =>
      simp only [putTag]
      split
      · simp; omega
      · split
        · simp
        · simp
  have gen : ∀ (l out : List (Nat × List UInt8)), (l.foldl (fun out kv => if kv.1 < known fs then out else putTag kv.1 kv.2 out) out).length ≤ out.length + l.length := by
    intro l
    induction l with
    | nil => intro out; simp
    | cons a l ih =>
      intro out
      have h1 := ih (if a.1 < known fs then out else putTag a.1 a.2 out)
      have h2 : (if a.1 < known fs then out else putTag a.1 a.2 out).length ≤ out.length + 1 := by
        split
        · omega
        · exact put _ _ _
      simp only [List.foldl_cons, List.length_cons]; omega
  have h := gen (u.take Most) []
  have hM : (u.take Most).length ≤ 32767 := by rw [List.length_take]; exact Nat.min_le_left _ _
  unfold unknown
  simp only [List.length_nil] at h; omega
theorem others_few (fs : List Fld) (u : List (Nat × List UInt8)) : (others fs u).length ≤ 32767 := by
  simp only [others, List.length_map]; exact unknown_few fs u
theorem others_most (fs : List Fld) (t : Tree) (hok : t.ok) : tagsB (others fs t.u) ≤ 1074069493 := by
  have gen : ∀ l : List (Nat × List UInt8), (∀ kv ∈ l, kv.1 < 4294967296) → tagsB (l.map fun kv => (kv.1, whole kv.2)) ≤ l.length * 32779 := by
    intro l
    induction l with
    | nil => intro _; simp [tagsB]
    | cons a l ih =>
      intro h
      have h0 := ih (fun x hx => h x (by simp [hx]))
      have ha := uvar_le6 a.1 (by have := h a (by simp); omega)
      have hw := (whole_le a.2).2
      have hb := uvar_le6 (whole a.2).length (by omega)
      simp only [tagsB, List.map_cons, List.sum_cons, wTag, List.length_append, List.length_cons, Nat.succ_mul] at *
      omega
  have h1 := gen (unknown fs t.u) (fun kv hkv => hok.u kv (unknown_in fs t.u kv hkv))
  have h2 := unknown_few fs t.u
  have h3 := Nat.mul_le_mul_right 32779 h2
  simp only [others]; omega
/-- A part's length, out of its fields' and its tags'. -/
theorem part_leF (ver : Int) (flex : Bool) (fs : List Fld) (t : Tree) (M O : Nat) (hF : (wFs ver flex fs 0 t).length ≤ M) (hT : ∀ k, tagsC (wTs ver flex fs 0 k t) ≤ M) (hO : tagsB (others fs t.u) ≤ O) :
    (wPart ver flex fs t).length ≤ (1 + known fs) * M + (bif flex then O + 258 else 0) := by
  unfold wPart asm
  rw [Nat.add_mul]
  cases flex with
  | false => simp only [Bool.false_eq_true, if_false, cond_false]; omega
  | true =>
    simp only [if_true, cond_true, List.length_append, flat_tagsB]
    have h1 := tagsC_range (fun k => wTs ver true fs 0 k t) M (known fs) hT
    have h2 : allTags ver true fs t = (List.range (known fs)).flatMap (fun k => wTs ver true fs 0 k t) ++ others fs t.u := rfl
    rw [h2, tagsB_append, List.length_append]
    have h3 := uvar_few ((List.range (known fs)).flatMap (fun k => wTs ver true fs 0 k t)).length (others fs t.u).length (others_few fs t.u)
    have h4 := tagsC_eq ((List.range (known fs)).flatMap (fun k => wTs ver true fs 0 k t))
    omega
theorem part_le (ver : Int) (flex : Bool) (fs : List Fld) (t : Tree) (M O : Nat) (hF : (wFs ver flex fs 0 t).length ≤ M) (hT : ∀ k, tagsC (wTs ver flex fs 0 k t) ≤ M) (hO : tagsB (others fs t.u) ≤ O) :
    (wPart ver flex fs t).length ≤ (1 + known fs) * M + (O + 258) := Nat.le_trans (part_leF ver flex fs t M O hF hT hO) (by cases flex <;> simp)
/-- A field's octets as a tag. -/
def tagged (tag : Int) (n : Nat) : Nat := if tag < 0 then n else n + n + tag.toNat + 3
theorem le_tagged (tag : Int) (n : Nat) : n ≤ tagged tag n := by unfold tagged; split <;> omega
theorem tag_le (k : Nat) (b : List UInt8) (n : Nat) (h : b.length ≤ n) : 1 + (wTag k b).length ≤ n + n + k + 3 := by
  have h1 := uvar_le1 k
  have h2 := uvar_le1 b.length
  simp only [wTag, List.length_append]; omega
/-- All unknown tags of a part. -/
def oF (fl : Bool) : Nat := bif fl then 1074069751 else 0
mutual
/-- The most that is written of a field. -/
def Fld.most (fl : Bool) : Fld → Nat
  | .mk kind _ _ _ _ _ of sub =>
    if kind = 11 then 8 + 32767 * (if of = 10 then (1 + known sub) * Fld.mosts fl sub + oF fl else 32783)
    else if kind = 10 then 1 + ((1 + known sub) * Fld.mosts fl sub + oF fl) else 32783
def Fld.mosts (fl : Bool) : List Fld → Nat
  | [] => 0
  | f :: fs => tagged f.tag (f.most fl) + Fld.mosts fl fs
end
def partMost (fl : Bool) (fs : List Fld) : Nat := (1 + known fs) * Fld.mosts fl fs + oF fl
theorem flat_le (g : Tree → List UInt8) (c : Nat) : ∀ (l : List Tree), (∀ x ∈ l, (g x).length ≤ c) → (l.flatMap g).length ≤ l.length * c
  | [], _ => by simp
  | x :: l, h => by
    have h1 := h x (by simp)
    have h2 := flat_le g c l (fun y hy => h y (by simp [hy]))
    simp only [List.flatMap_cons, List.length_append, List.length_cons, Nat.succ_mul]; omega
theorem wVal_most (kind : Int) (flex null : Bool) (p : Tree → List UInt8) (t : Tree) (h : kind ≠ 10) : (wVal kind flex null p t).length ≤ 32783 := by
  have hw := whole_le t.s
  have hif : (if null then ([] : List UInt8) else whole t.s).length ≤ 32767 := by
    cases null
    · exact hw.2
    · simp
  unfold wVal
  split
  · simp
  · split
    · simp only [sixteen, List.length_take]; omega
    · split
      · have := counted_le flex null (if null then ([] : List UInt8) else whole t.s).length 2 (by omega) (by omega)
        rw [List.length_append]; omega
      · split
        · have := counted_le flex null (if null then ([] : List UInt8) else whole t.s).length 4 (by omega) (by omega)
          rw [List.length_append]; omega
        · rw [be_len]
          have := width8 kind
          omega
theorem wVal_part (flex null : Bool) (p : Tree → List UInt8) (t : Tree) : wVal 10 flex null p t = p t := by simp [wVal]
theorem things_few (l : List Tree) : (things l).length ≤ 32767 := by unfold things Most; rw [List.length_take]; omega
mutual
theorem wField_most (ver : Int) (flex : Bool) : ∀ (f : Fld) (t : Tree), t.ok → (wField ver flex f t).length ≤ f.most flex
  | .mk kind fr upto nul tag df of sub, t, ht => by
    have hp : ∀ x : Tree, x.ok → (wPart ver flex sub x).length ≤ (1 + known sub) * Fld.mosts flex sub + oF flex := fun x hx =>
      Nat.le_trans (part_leF ver flex sub x _ 1074069493 (wFs_most ver flex sub 0 x hx) (fun k => wTs_most ver flex sub 0 k x hx) (others_most sub x hx)) (by cases flex <;> simp [oF])
    rw [wField_mk ver flex kind fr upto nul tag df of sub t _ rfl]
    simp only [Fld.most]
    generalize (1 + known sub) * Fld.mosts flex sub + oF flex = c at hp ⊢
    by_cases h11 : kind = 11
    · simp only [h11, if_true]
      generalize (t.nul && decide (0 ≤ nul) && decide (nul ≤ ver)) = null
      have hlen : (if null then ([] : List Tree) else things t.l).length ≤ 32767 := by
        cases null
        · exact things_few t.l
        · simp
      have hmem : ∀ x ∈ (if null then ([] : List Tree) else things t.l), x.ok := by
        intro x hx
        cases null
        · exact ht.l x (List.mem_of_mem_take hx)
        · simp at hx
      have h8 := counted_le flex null (if null then ([] : List Tree) else things t.l).length 4 (by omega) (by omega)
      rw [List.length_append]
      have h9 := flat_le (wVal of flex false (wPart ver flex sub)) (if of = 10 then c else 32783) (if null then ([] : List Tree) else things t.l) (fun x hx => by
        by_cases h10 : of = 10
        · rw [if_pos h10, h10, wVal_part]; exact hp x (hmem x hx)
        · rw [if_neg h10]; exact wVal_most of flex false _ x h10)
      have h10 : (if null then ([] : List Tree) else things t.l).length * (if of = 10 then c else 32783) ≤ 32767 * (if of = 10 then c else 32783) := Nat.mul_le_mul_right _ hlen
      omega
    · simp only [h11, if_false]
      by_cases h10 : kind = 10
      · simp only [h10, true_and, if_true]
        have h1 := hp t ht
        split
        · split
          · rw [be_len]; omega
          · rw [List.length_append, be_len]; omega
        · rw [wVal_part]; omega
      · simp only [h10, false_and, if_false]
        exact wVal_most kind flex _ _ t h10
theorem wFs_most (ver : Int) (flex : Bool) : ∀ (fs : List Fld) (i : Nat) (t : Tree), t.ok → (wFs ver flex fs i t).length ≤ Fld.mosts flex fs
  | [], _, _, _ => by simp [wFs]
  | f :: fs, i, t, ht => by
    have h1 := wField_most ver flex f (att t i) (ht.at i)
    have h2 := wFs_most ver flex fs (i + 1) t ht
    have h3 := le_tagged f.tag (f.most flex)
    simp only [wFs, Fld.mosts, List.length_append]
    split
    · omega
    · simp only [List.length_nil]; omega
theorem wTs_most (ver : Int) (flex : Bool) : ∀ (fs : List Fld) (i k : Nat) (t : Tree), t.ok → tagsC (wTs ver flex fs i k t) ≤ Fld.mosts flex fs
  | [], _, _, _, _ => by simp [wTs, tagsC]
  | f :: fs, i, k, t, ht => by
    have h1 := wField_most ver flex f (att t i) (ht.at i)
    have h2 := wTs_most ver flex fs (i + 1) k t ht
    simp only [wTs, Fld.mosts, tagsC_append]
    split
    · rename_i h
      have h3 := tag_le k (wField ver flex f (att t i)) _ h1
      have h4 : tagged f.tag (f.most flex) = f.most flex + f.most flex + k + 3 := by
        unfold tagged
        rw [if_neg (by omega)]
        have : f.tag.toNat = k := by omega
        omega
      simp only [tagsC, List.map_cons, List.map_nil, List.sum_cons, List.sum_nil] at h2 ⊢; omega
    · have : tagsC ([] : List (Nat × List UInt8)) = 0 := rfl
      omega
end
theorem wPart_most (ver : Int) (flex : Bool) (fs : List Fld) (t : Tree) (ht : t.ok) : (wPart ver flex fs t).length ≤ partMost flex fs :=
  Nat.le_trans (part_leF ver flex fs t _ 1074069493 (wFs_most ver flex fs 0 t ht) (fun k => wTs_most ver flex fs 0 k t ht) (others_most fs t ht)) (by unfold partMost; cases flex <;> simp [oF])

mutual
/-- What a field costs by value and letter. -/
def Fld.price : Fld → Nat
  | .mk _ _ _ _ _ _ _ sub => ((1 + known sub) * Fld.prices sub + 272) + 24 + 9
def Fld.prices : List Fld → Nat
  | [] => 0
  | f :: fs => tagged f.tag f.price + Fld.prices fs
end
def partPrice (fs : List Fld) : Nat := (1 + known fs) * Fld.prices fs + 272
theorem tagged_mul (tag : Int) (n k w : Nat) (ht : tag = (k : Int)) (hw : 1 ≤ w) : n * w + n * w + k + 3 ≤ tagged tag n * w := by
  unfold tagged
  rw [if_neg (by omega)]
  have : tag.toNat = k := by omega
  rw [this, Nat.add_mul, Nat.add_mul, Nat.add_mul]
  have : k * 1 ≤ k * w := Nat.mul_le_mul_left _ hw
  omega
mutual
theorem wField_price (ver : Int) (flex : Bool) : ∀ (f : Fld) (t : Tree), t.ok → (wField ver flex f t).length ≤ f.price * t.wt
  | .mk kind fr upto nul tag df of sub, t, ht => by
    have hw := t.wt_pos
    have hp : ∀ x : Tree, x.ok → (wPart ver flex sub x).length ≤ ((1 + known sub) * Fld.prices sub + 272) * x.wt := fun x hx => by
      have hx1 := x.wt_pos
      have := part_le ver flex sub x (Fld.prices sub * x.wt) (14 * x.wt) (wFs_price ver flex sub 0 x hx) (fun k => wTs_price ver flex sub 0 k x hx) (others_le sub x hx)
      rw [Nat.add_mul, Nat.mul_assoc]
      omega
    rw [wField_mk ver flex kind fr upto nul tag df of sub t _ rfl]
    simp only [Fld.price]
    generalize (1 + known sub) * Fld.prices sub + 272 = c at hp ⊢
    have hc : (c + 24 + 9) * t.wt = (c + 24) * t.wt + 9 * t.wt := Nat.add_mul _ _ _
    by_cases h11 : kind = 11
    · simp only [h11, if_true]
      generalize (t.nul && decide (0 ≤ nul) && decide (nul ≤ ver)) = null
      have hlen : (if null then ([] : List Tree) else things t.l).length ≤ 32767 := by
        cases null
        · exact things_few t.l
        · simp
      have hmem : ∀ x ∈ (if null then ([] : List Tree) else things t.l), x.ok := by
        intro x hx
        cases null
        · exact ht.l x (List.mem_of_mem_take hx)
        · simp at hx
      have hwt : Tree.wts (if null then ([] : List Tree) else things t.l) ≤ t.wt := by
        have := l_wt t
        have := wts_take t.l Most
        cases null
        · show Tree.wts (t.l.take Most) ≤ _; omega
        · simp [Tree.wts]
      have h8 := counted_le flex null (if null then ([] : List Tree) else things t.l).length 4 (by omega) (by omega)
      rw [List.length_append]
      have h9 := things_le (wVal of flex false (wPart ver flex sub)) (c + 24) (if null then ([] : List Tree) else things t.l) (fun x hx => wVal_le of flex false _ x c (hp x (hmem x hx)))
      have h10 : (c + 24) * Tree.wts (if null then ([] : List Tree) else things t.l) ≤ (c + 24) * t.wt := Nat.mul_le_mul_left _ hwt
      omega
    · simp only [h11, if_false]
      by_cases h10 : kind = 10
      · simp only [h10, true_and]
        have h1 := hp t ht
        have h2 : c * t.wt ≤ (c + 24) * t.wt := Nat.mul_le_mul_right _ (by omega)
        split
        · split
          · rw [be_len]; omega
          · rw [List.length_append, be_len]; omega
        · rw [wVal_part]; omega
      · simp only [h10, false_and, if_false]
        have := wVal_le kind flex (t.nul && decide (0 ≤ nul) && decide (nul ≤ ver)) (wPart ver flex sub) t c (hp t ht)
        omega
theorem wFs_price (ver : Int) (flex : Bool) : ∀ (fs : List Fld) (i : Nat) (t : Tree), t.ok → (wFs ver flex fs i t).length ≤ Fld.prices fs * t.wt
  | [], _, _, _ => by simp [wFs]
  | f :: fs, i, t, ht => by
    have h1 := wField_price ver flex f (att t i) (ht.at i)
    have h2 := wFs_price ver flex fs (i + 1) t ht
    have h3 : f.price * (att t i).wt ≤ tagged f.tag f.price * t.wt := Nat.mul_le_mul (le_tagged _ _) (att_wt t i)
    simp only [wFs, Fld.prices, List.length_append, Nat.add_mul]
    split
    · omega
    · simp only [List.length_nil]; omega
theorem wTs_price (ver : Int) (flex : Bool) : ∀ (fs : List Fld) (i k : Nat) (t : Tree), t.ok → tagsC (wTs ver flex fs i k t) ≤ Fld.prices fs * t.wt
  | [], _, _, _, _ => by simp [wTs, tagsC]
  | f :: fs, i, k, t, ht => by
    have h1 := wField_price ver flex f (att t i) (ht.at i)
    have h2 := wTs_price ver flex fs (i + 1) k t ht
    simp only [wTs, Fld.prices, tagsC_append, Nat.add_mul]
    split
    · rename_i h
      have h0 : f.price * (att t i).wt ≤ f.price * t.wt := Nat.mul_le_mul_left _ (att_wt t i)
      have h3 := tag_le k (wField ver flex f (att t i)) (f.price * t.wt) (by omega)
      have h4 := tagged_mul f.tag f.price k t.wt h.1 t.wt_pos
      simp only [tagsC, List.map_cons, List.map_nil, List.sum_cons, List.sum_nil] at h2 ⊢; omega
    · have : tagsC ([] : List (Nat × List UInt8)) = 0 := rfl
      omega
end
theorem wPart_price (ver : Int) (flex : Bool) (fs : List Fld) (t : Tree) (ht : t.ok) : (wPart ver flex fs t).length ≤ partPrice fs * t.wt := by
  have hx1 := t.wt_pos
  have := part_le ver flex fs t (Fld.prices fs * t.wt) (14 * t.wt) (wFs_price ver flex fs 0 t ht) (fun k => wTs_price ver flex fs 0 k t ht) (others_le fs t ht)
  unfold partPrice
  rw [Nat.add_mul, Nat.mul_assoc]
  omega
end Go.Proofs.YtgblofcjkgbojaaDoor

/- The reference's small functions: what each comes to. -/
namespace Go.Proofs.YtgblofcjkgbojaaDoor
open Go Go.RowKit

section
set_option maxRecDepth 100000
/-- The call comes to a value of which R holds, and nothing that was there has turned. -/
def Fn (F : FuncId) (vs : List Value) (w : World) (R : Value → World → Prop) : Prop :=
  Calls Tryd.prog F vs.toArray w fun e w' => ∃ v, e = .returned v ∧ Below w.heap.size w w' ∧ R v w'

theorem fn_has (f : Fld) (ver : Int) (B : Nat) (w : World) (_hB : B ≤ w.heap.size) (cs : List Value) (hf : Rep (Lo B) w (fldD f) cs) :
    Fn 22 [.agg cs.toArray, .int .i64 ver] w fun v _ => v = .bool (f.has ver) := by
  obtain ⟨sv, rfl, _⟩ := fld_cells hf
  refine enter Tryd.func22 rfl Tryd.ntmps22 rfl ?_
  repeat first|(with_reducible first|apply wc_seq|apply wc_region|apply wl_nil|apply qk_thn|apply wc_block|apply wc_skip|apply wc_ret|apply wc_exit|apply qk_thn_ret|apply qk_in_ret|apply qk_in|apply qk_thn_exit|apply qk_in_exit|apply qk_round_ret|apply qk_round_exit)|((with_reducible apply ws);exact rfl;exact rfl)|((with_reducible apply wl_yes);exact rfl;exact rfl;exact rfl)|((with_reducible apply wl_no);exact rfl;exact rfl;exact rfl;exact rfl)|((with_reducible apply wl_noU);exact rfl;exact rfl;exact rfl)
  refine wl_box1 rfl rfl rfl (fun w1 hb hg hs => ?_)
  repeat first|(with_reducible first|apply wc_seq|apply wc_region|apply wl_nil|apply qk_thn|apply wc_block|apply wc_skip|apply wc_ret|apply wc_exit|apply qk_thn_ret|apply qk_in_ret|apply qk_in|apply qk_thn_exit|apply qk_in_exit|apply qk_round_ret|apply qk_round_exit)|((with_reducible apply ws);exact rfl;exact rfl)|((with_reducible apply wl_yes);exact rfl;exact rfl;exact rfl)|((with_reducible apply wl_no);exact rfl;exact rfl;exact rfl;exact rfl)|((with_reducible apply wl_noU);exact rfl;exact rfl;exact rfl)
  refine wl_loadB rfl to_int rfl hb rfl ?_
  repeat first|(with_reducible first|apply wc_seq|apply wc_region|apply wl_nil|apply qk_thn|apply wc_block|apply wc_skip|apply wc_ret|apply wc_exit|apply qk_thn_ret|apply qk_in_ret|apply qk_in|apply qk_thn_exit|apply qk_in_exit|apply qk_round_ret|apply qk_round_exit)|((with_reducible apply ws);exact rfl;exact rfl)|((with_reducible apply wl_yes);exact rfl;exact rfl;exact rfl)|((with_reducible apply wl_no);exact rfl;exact rfl;exact rfl;exact rfl)|((with_reducible apply wl_noU);exact rfl;exact rfl;exact rfl)
  have hfin : Below w.heap.size w w1 := below_of hg (Nat.le_refl _) (by simp)
  by_cases h1 : f.fr ≤ ver
  · have e1 : decide (f.fr ≤ ver) = true := by simpa using h1
    rw [e1]
    repeat first|(with_reducible first|apply wc_seq|apply wc_region|apply wl_nil|apply qk_thn|apply wc_block|apply wc_skip|apply wc_ret|apply wc_exit|apply qk_thn_ret|apply qk_in_ret|apply qk_in|apply qk_thn_exit|apply qk_in_exit|apply qk_round_ret|apply qk_round_exit)|((with_reducible apply ws);exact rfl;exact rfl)|((with_reducible apply wl_yes);exact rfl;exact rfl;exact rfl)|((with_reducible apply wl_no);exact rfl;exact rfl;exact rfl;exact rfl)|((with_reducible apply wl_noU);exact rfl;exact rfl;exact rfl)
    refine wl_loadB rfl to_int rfl hb rfl ?_
    repeat first|(with_reducible first|apply wc_seq|apply wc_region|apply wl_nil|apply qk_thn|apply wc_block|apply wc_skip|apply wc_ret|apply wc_exit|apply qk_thn_ret|apply qk_in_ret|apply qk_in|apply qk_thn_exit|apply qk_in_exit|apply qk_round_ret|apply qk_round_exit)|((with_reducible apply ws);exact rfl;exact rfl)|((with_reducible apply wl_yes);exact rfl;exact rfl;exact rfl)|((with_reducible apply wl_no);exact rfl;exact rfl;exact rfl;exact rfl)|((with_reducible apply wl_noU);exact rfl;exact rfl;exact rfl)
    by_cases h2 : f.upto < 0
    · have e2 : decide (f.upto < 0) = true := by simpa using h2
      rw [e2]
      repeat first|(with_reducible first|apply wc_seq|apply wc_region|apply wl_nil|apply qk_thn|apply wc_block|apply wc_skip|apply wc_ret|apply wc_exit|apply qk_thn_ret|apply qk_in_ret|apply qk_in|apply qk_thn_exit|apply qk_in_exit|apply qk_round_ret|apply qk_round_exit)|((with_reducible apply ws);exact rfl;exact rfl)|((with_reducible apply wl_yes);exact rfl;exact rfl;exact rfl)|((with_reducible apply wl_no);exact rfl;exact rfl;exact rfl;exact rfl)|((with_reducible apply wl_noU);exact rfl;exact rfl;exact rfl)
      exact qk_ret1 rfl rfl ⟨_, rfl, hfin, by simp [Fld.has, h1, h2]⟩
    · have e2 : decide (f.upto < 0) = false := by simpa using h2
      rw [e2]
      repeat first|(with_reducible first|apply wc_seq|apply wc_region|apply wl_nil|apply qk_thn|apply wc_block|apply wc_skip|apply wc_ret|apply wc_exit|apply qk_thn_ret|apply qk_in_ret|apply qk_in|apply qk_thn_exit|apply qk_in_exit|apply qk_round_ret|apply qk_round_exit)|((with_reducible apply ws);exact rfl;exact rfl)|((with_reducible apply wl_yes);exact rfl;exact rfl;exact rfl)|((with_reducible apply wl_no);exact rfl;exact rfl;exact rfl;exact rfl)|((with_reducible apply wl_noU);exact rfl;exact rfl;exact rfl)
      refine wl_loadB rfl to_int rfl hb rfl ?_
      repeat first|(with_reducible first|apply wc_seq|apply wc_region|apply wl_nil|apply qk_thn|apply wc_block|apply wc_skip|apply wc_ret|apply wc_exit|apply qk_thn_ret|apply qk_in_ret|apply qk_in|apply qk_thn_exit|apply qk_in_exit|apply qk_round_ret|apply qk_round_exit)|((with_reducible apply ws);exact rfl;exact rfl)|((with_reducible apply wl_yes);exact rfl;exact rfl;exact rfl)|((with_reducible apply wl_no);exact rfl;exact rfl;exact rfl;exact rfl)|((with_reducible apply wl_noU);exact rfl;exact rfl;exact rfl)
      exact qk_ret1 rfl rfl ⟨_, rfl, hfin, by simp [Fld.has, h1, h2]⟩
  · have e1 : decide (f.fr ≤ ver) = false := by simpa using h1
    rw [e1]
    repeat first|(with_reducible first|apply wc_seq|apply wc_region|apply wl_nil|apply qk_thn|apply wc_block|apply wc_skip|apply wc_ret|apply wc_exit|apply qk_thn_ret|apply qk_in_ret|apply qk_in|apply qk_thn_exit|apply qk_in_exit|apply qk_round_ret|apply qk_round_exit)|((with_reducible apply ws);exact rfl;exact rfl)|((with_reducible apply wl_yes);exact rfl;exact rfl;exact rfl)|((with_reducible apply wl_no);exact rfl;exact rfl;exact rfl;exact rfl)|((with_reducible apply wl_noU);exact rfl;exact rfl;exact rfl)
    exact qk_ret1 rfl rfl ⟨_, rfl, hfin, by simp [Fld.has, h1]⟩

theorem fn_null (f : Fld) (ver : Int) (t : Tree) (B : Nat) (w : World) (_hB : B ≤ w.heap.size) (cs ts : List Value) (hf : Rep (Lo B) w (fldD f) cs) (ht : Rep (Lo B) w (treeD t) ts) :
    Fn 34 [.agg cs.toArray, .int .i64 ver, .agg ts.toArray] w fun v _ => v = .bool (f.null ver t) := by
  obtain ⟨sv, rfl, _⟩ := fld_cells hf
  obtain ⟨sv2, lv, uv, rfl, _, _, _⟩ := tree_cells ht
  refine enter Tryd.func34 rfl Tryd.ntmps34 rfl ?_
  repeat first|(with_reducible first|apply wc_seq|apply wc_region|apply wl_nil|apply qk_thn|apply wc_block|apply wc_skip|apply wc_ret|apply wc_exit|apply qk_thn_ret|apply qk_in_ret|apply qk_in|apply qk_thn_exit|apply qk_in_exit|apply qk_round_ret|apply qk_round_exit)|((with_reducible apply ws);exact rfl;exact rfl)|((with_reducible apply wl_yes);exact rfl;exact rfl;exact rfl)|((with_reducible apply wl_no);exact rfl;exact rfl;exact rfl;exact rfl)|((with_reducible apply wl_noU);exact rfl;exact rfl;exact rfl)
  refine wl_box1 rfl rfl rfl (fun w1 hb1 hg1 hs1 => wl_box1 rfl rfl rfl (fun w2 hb2 hg2 hs2 => ?_))
  have hb := hb1.kept hg2 (by simp)
  have hfin : Below w.heap.size w w2 := (below_of hg1 (Nat.le_refl _) (by simp)).trans (below_of hg2 (by omega) (by simp))
  repeat first|(with_reducible first|apply wc_seq|apply wc_region|apply wl_nil|apply qk_thn|apply wc_block|apply wc_skip|apply wc_ret|apply wc_exit|apply qk_thn_ret|apply qk_in_ret|apply qk_in|apply qk_thn_exit|apply qk_in_exit|apply qk_round_ret|apply qk_round_exit)|((with_reducible apply ws);exact rfl;exact rfl)|((with_reducible apply wl_yes);exact rfl;exact rfl;exact rfl)|((with_reducible apply wl_no);exact rfl;exact rfl;exact rfl;exact rfl)|((with_reducible apply wl_noU);exact rfl;exact rfl;exact rfl)
  refine wl_loadB rfl to_bool rfl hb2 rfl ?_
  repeat first|(with_reducible first|apply wc_seq|apply wc_region|apply wl_nil|apply qk_thn|apply wc_block|apply wc_skip|apply wc_ret|apply wc_exit|apply qk_thn_ret|apply qk_in_ret|apply qk_in|apply qk_thn_exit|apply qk_in_exit|apply qk_round_ret|apply qk_round_exit)|((with_reducible apply ws);exact rfl;exact rfl)|((with_reducible apply wl_yes);exact rfl;exact rfl;exact rfl)|((with_reducible apply wl_no);exact rfl;exact rfl;exact rfl;exact rfl)|((with_reducible apply wl_noU);exact rfl;exact rfl;exact rfl)
  cases hn : t.nul
  · repeat first|(with_reducible first|apply wc_seq|apply wc_region|apply wl_nil|apply qk_thn|apply wc_block|apply wc_skip|apply wc_ret|apply wc_exit|apply qk_thn_ret|apply qk_in_ret|apply qk_in|apply qk_thn_exit|apply qk_in_exit|apply qk_round_ret|apply qk_round_exit)|((with_reducible apply ws);exact rfl;exact rfl)|((with_reducible apply wl_yes);exact rfl;exact rfl;exact rfl)|((with_reducible apply wl_no);exact rfl;exact rfl;exact rfl;exact rfl)|((with_reducible apply wl_noU);exact rfl;exact rfl;exact rfl)
    exact qk_ret1 rfl rfl ⟨_, rfl, hfin, by simp [Fld.null, hn]⟩
  · repeat first|(with_reducible first|apply wc_seq|apply wc_region|apply wl_nil|apply qk_thn|apply wc_block|apply wc_skip|apply wc_ret|apply wc_exit|apply qk_thn_ret|apply qk_in_ret|apply qk_in|apply qk_thn_exit|apply qk_in_exit|apply qk_round_ret|apply qk_round_exit)|((with_reducible apply ws);exact rfl;exact rfl)|((with_reducible apply wl_yes);exact rfl;exact rfl;exact rfl)|((with_reducible apply wl_no);exact rfl;exact rfl;exact rfl;exact rfl)|((with_reducible apply wl_noU);exact rfl;exact rfl;exact rfl)
    refine wl_loadB rfl to_int rfl hb rfl ?_
    repeat first|(with_reducible first|apply wc_seq|apply wc_region|apply wl_nil|apply qk_thn|apply wc_block|apply wc_skip|apply wc_ret|apply wc_exit|apply qk_thn_ret|apply qk_in_ret|apply qk_in|apply qk_thn_exit|apply qk_in_exit|apply qk_round_ret|apply qk_round_exit)|((with_reducible apply ws);exact rfl;exact rfl)|((with_reducible apply wl_yes);exact rfl;exact rfl;exact rfl)|((with_reducible apply wl_no);exact rfl;exact rfl;exact rfl;exact rfl)|((with_reducible apply wl_noU);exact rfl;exact rfl;exact rfl)
    by_cases h1 : 0 ≤ f.nul
    · have e1 : decide (0 ≤ f.nul) = true := by simpa using h1
      rw [e1]
      repeat first|(with_reducible first|apply wc_seq|apply wc_region|apply wl_nil|apply qk_thn|apply wc_block|apply wc_skip|apply wc_ret|apply wc_exit|apply qk_thn_ret|apply qk_in_ret|apply qk_in|apply qk_thn_exit|apply qk_in_exit|apply qk_round_ret|apply qk_round_exit)|((with_reducible apply ws);exact rfl;exact rfl)|((with_reducible apply wl_yes);exact rfl;exact rfl;exact rfl)|((with_reducible apply wl_no);exact rfl;exact rfl;exact rfl;exact rfl)|((with_reducible apply wl_noU);exact rfl;exact rfl;exact rfl)
      refine wl_loadB rfl to_int rfl hb rfl ?_
      repeat first|(with_reducible first|apply wc_seq|apply wc_region|apply wl_nil|apply qk_thn|apply wc_block|apply wc_skip|apply wc_ret|apply wc_exit|apply qk_thn_ret|apply qk_in_ret|apply qk_in|apply qk_thn_exit|apply qk_in_exit|apply qk_round_ret|apply qk_round_exit)|((with_reducible apply ws);exact rfl;exact rfl)|((with_reducible apply wl_yes);exact rfl;exact rfl;exact rfl)|((with_reducible apply wl_no);exact rfl;exact rfl;exact rfl;exact rfl)|((with_reducible apply wl_noU);exact rfl;exact rfl;exact rfl)
      exact qk_ret1 rfl rfl ⟨_, rfl, hfin, by simp [Fld.null, hn, h1]⟩
    · have e1 : decide (0 ≤ f.nul) = false := by simpa using h1
      rw [e1]
      repeat first|(with_reducible first|apply wc_seq|apply wc_region|apply wl_nil|apply qk_thn|apply wc_block|apply wc_skip|apply wc_ret|apply wc_exit|apply qk_thn_ret|apply qk_in_ret|apply qk_in|apply qk_thn_exit|apply qk_in_exit|apply qk_round_ret|apply qk_round_exit)|((with_reducible apply ws);exact rfl;exact rfl)|((with_reducible apply wl_yes);exact rfl;exact rfl;exact rfl)|((with_reducible apply wl_no);exact rfl;exact rfl;exact rfl;exact rfl)|((with_reducible apply wl_noU);exact rfl;exact rfl;exact rfl)
      exact qk_ret1 rfl rfl ⟨_, rfl, hfin, by simp [Fld.null, hn, h1]⟩

theorem fn_at (t : Tree) (i : Nat) (B : Nat) (w : World) (hB : B ≤ w.heap.size) (ts : List Value) (ht : Rep (Lo B) w (treeD t) ts) :
    Fn 24 [.agg ts.toArray, .int .i64 (i : Int)] w fun v w' => ∃ cs : List Value, v = .agg cs.toArray ∧ Rep (Lo B) w' (treeD (att t i)) cs := by
  obtain ⟨sv2, lv, uv, rfl, _, hl, _⟩ := tree_cells ht
  obtain ⟨la, lc, rfl, _⟩ := hl.shape
  refine enter Tryd.func24 rfl Tryd.ntmps24 rfl ?_
  repeat first|(with_reducible first|apply wc_seq|apply wc_region|apply wl_nil|apply qk_thn|apply wc_block|apply wc_skip|apply wc_ret|apply wc_exit|apply qk_thn_ret|apply qk_in_ret|apply qk_in|apply qk_thn_exit|apply qk_in_exit|apply qk_round_ret|apply qk_round_exit)|((with_reducible apply ws);exact rfl;exact rfl)|((with_reducible apply wl_yes);exact rfl;exact rfl;exact rfl)|((with_reducible apply wl_no);exact rfl;exact rfl;exact rfl;exact rfl)|((with_reducible apply wl_noU);exact rfl;exact rfl;exact rfl)
  refine wl_box1 rfl rfl rfl (fun w1 hb1 hg1 hs1 => wl_alloc zv_tree rfl rfl (fun w2 hb2 hg2 hs2 => ?_))
  have hb := hb1.kept hg2 (by simp)
  have hw2 : Below w.heap.size w w2 := (below_of hg1 (Nat.le_refl _) (by simp)).trans (below_of hg2 (by omega) (by simp))
  repeat first|(with_reducible first|apply wc_seq|apply wc_region|apply wl_nil|apply qk_thn|apply wc_block|apply wc_skip|apply wc_ret|apply wc_exit|apply qk_thn_ret|apply qk_in_ret|apply qk_in|apply qk_thn_exit|apply qk_in_exit|apply qk_round_ret|apply qk_round_exit)|((with_reducible apply ws);exact rfl;exact rfl)|((with_reducible apply wl_yes);exact rfl;exact rfl;exact rfl)|((with_reducible apply wl_no);exact rfl;exact rfl;exact rfl;exact rfl)|((with_reducible apply wl_noU);exact rfl;exact rfl;exact rfl)
  refine wl_loadB rfl to_trees rfl hb rfl ?_
  repeat first|(with_reducible first|apply wc_seq|apply wc_region|apply wl_nil|apply qk_thn|apply wc_block|apply wc_skip|apply wc_ret|apply wc_exit|apply qk_thn_ret|apply qk_in_ret|apply qk_in|apply qk_thn_exit|apply qk_in_exit|apply qk_round_ret|apply qk_round_exit)|((with_reducible apply ws);exact rfl;exact rfl)|((with_reducible apply wl_yes);exact rfl;exact rfl;exact rfl)|((with_reducible apply wl_no);exact rfl;exact rfl;exact rfl;exact rfl)|((with_reducible apply wl_noU);exact rfl;exact rfl;exact rfl)
  by_cases h : i < t.l.length
  · refine wc_yes rfl (by simpa using h) ?_
    have hl2 := hl.below (hw2.mono hB) (Nat.le_refl _)
    obtain ⟨b, off, c, cs, hv, hbB, hcs, hlen, hr⟩ := hl2.get (sz := 5) (i := i) (by intro d hd; obtain ⟨x, _, rfl⟩ := List.mem_map.1 hd; exact treeD_width x) (by simpa using h)
    simp only [Value.slice.injEq, List.length_map] at hv
    obtain ⟨rfl, _, rfl⟩ := hv
    simp only [List.getElem_map] at hr
    repeat first|(with_reducible first|apply wc_seq|apply wc_region|apply wl_nil|apply qk_thn|apply wc_block|apply wc_skip|apply wc_ret|apply wc_exit|apply qk_thn_ret|apply qk_in_ret|apply qk_in|apply qk_thn_exit|apply qk_in_exit|apply qk_round_ret|apply qk_round_exit)|((with_reducible apply ws);exact rfl;exact rfl)|((with_reducible apply wl_yes);exact rfl;exact rfl;exact rfl)|((with_reducible apply wl_no);exact rfl;exact rfl;exact rfl;exact rfl)|((with_reducible apply wl_noU);exact rfl;exact rfl;exact rfl)
    refine wl_loadB rfl to_trees rfl hb rfl ?_
    repeat first|(with_reducible first|apply wc_seq|apply wc_region|apply wl_nil|apply qk_thn|apply wc_block|apply wc_skip|apply wc_ret|apply wc_exit|apply qk_thn_ret|apply qk_in_ret|apply qk_in|apply qk_thn_exit|apply qk_in_exit|apply qk_round_ret|apply qk_round_exit)|((with_reducible apply ws);exact rfl;exact rfl)|((with_reducible apply wl_yes);exact rfl;exact rfl;exact rfl)|((with_reducible apply wl_no);exact rfl;exact rfl;exact rfl;exact rfl)|((with_reducible apply wl_noU);exact rfl;exact rfl;exact rfl)
    refine wl_indexAddr rfl rfl es_trees rfl (by simpa using h) ?_
    refine wl_loadAgg rfl (by rw [hlen]; exact ta_tree) rfl (fun j v e => hcs.cell e) ?_
    obtain ⟨hone, hlen5⟩ := tree_one hr
    refine wl_storeBAgg rfl rfl rfl (by rw [hlen5]; exact tz_tree) hone hb2 (by rw [hlen5]; rfl) (fun w3 hb3 hg3 hs3 => ?_)
    repeat first|(with_reducible first|apply wc_seq|apply wc_region|apply wl_nil|apply qk_thn|apply wc_block|apply wc_skip|apply wc_ret|apply wc_exit|apply qk_thn_ret|apply qk_in_ret|apply qk_in|apply qk_thn_exit|apply qk_in_exit|apply qk_round_ret|apply qk_round_exit)|((with_reducible apply ws);exact rfl;exact rfl)|((with_reducible apply wl_yes);exact rfl;exact rfl;exact rfl)|((with_reducible apply wl_no);exact rfl;exact rfl;exact rfl;exact rfl)|((with_reducible apply wl_noU);exact rfl;exact rfl;exact rfl)
    have hw3 : Below w.heap.size w w3 := hw2.trans (below_of hg3 (by omega) (by intro k hk; simp at hk; omega))
    refine qk_retCell rfl rfl (by rw [hlen5]; exact ta_tree) hb3 ⟨_, rfl, hw3, cs, rfl, ?_⟩
    have : att t i = t.l[i] := by simp [att, h]
    rw [this]
    exact hr.below (below_of hg3 (by omega) (by intro k hk; simp at hk; omega)) (Nat.le_refl _)
  · refine wc_no rfl (by simpa using h) ?_
    repeat first|(with_reducible first|apply wc_seq|apply wc_region|apply wl_nil|apply qk_thn|apply wc_block|apply wc_skip|apply wc_ret|apply wc_exit|apply qk_thn_ret|apply qk_in_ret|apply qk_in|apply qk_thn_exit|apply qk_in_exit|apply qk_round_ret|apply qk_round_exit)|((with_reducible apply ws);exact rfl;exact rfl)|((with_reducible apply wl_yes);exact rfl;exact rfl;exact rfl)|((with_reducible apply wl_no);exact rfl;exact rfl;exact rfl;exact rfl)|((with_reducible apply wl_noU);exact rfl;exact rfl;exact rfl)
    refine wl_build rfl (cs := [.int .i64 0, .slice none 0 0, .bool false, .slice none 0 0, .slice none 0 0]) (by kernel_rfl) rfl ?_
    refine wl_storeBAgg rfl rfl rfl tz_tree rfl hb2 rfl (fun w3 hb3 hg3 hs3 => ?_)
    repeat first|(with_reducible first|apply wc_seq|apply wc_region|apply wl_nil|apply qk_thn|apply wc_block|apply wc_skip|apply wc_ret|apply wc_exit|apply qk_thn_ret|apply qk_in_ret|apply qk_in|apply qk_thn_exit|apply qk_in_exit|apply qk_round_ret|apply qk_round_exit)|((with_reducible apply ws);exact rfl;exact rfl)|((with_reducible apply wl_yes);exact rfl;exact rfl;exact rfl)|((with_reducible apply wl_no);exact rfl;exact rfl;exact rfl;exact rfl)|((with_reducible apply wl_noU);exact rfl;exact rfl;exact rfl)
    have hw3 : Below w.heap.size w w3 := hw2.trans (below_of hg3 (by omega) (by intro k hk; simp at hk; omega))
    refine qk_retCell (cs := [.int .i64 0, .slice none 0 0, .bool false, .slice none 0 0, .slice none 0 0]) rfl rfl ta_tree hb3 ⟨_, rfl, hw3, _, rfl, ?_⟩
    have : att t i = Tree.none := by simp [att, List.getD, List.getElem?_eq_none (by omega : t.l.length ≤ i)]
    rw [this]
    exact tree_none _ _

theorem take_min {α : Type} (l : List α) (n : Nat) : l.take (min l.length n) = l.take n := by
  by_cases h : n ≤ l.length
  · rw [Nat.min_eq_right h]
  · rw [Nat.min_eq_left (by omega), List.take_of_length_le (by omega), List.take_of_length_le (by omega)]
theorem min_if (n : Nat) : (if (32767 : Int) < (n : Int) then (32767 : Int) else (n : Int)) = ((min n Most : Nat) : Int) := by
  unfold Most
  split <;> omega
theorem fn_whole (v : Value) (ds : List D) (B : Nat) (w : World) (h : Sq B w v ds) : Fn 29 [v] w fun v' w' => w' = w ∧ Sq B w v' (ds.take Most) := by
  obtain ⟨a, c, rfl, hc⟩ := h.shape
  refine enter Tryd.func29 rfl Tryd.ntmps29 rfl ?_
  repeat first|(with_reducible first|apply wc_seq|apply wc_region|apply wl_nil|apply qk_thn|apply wc_block|apply wc_skip|apply wc_ret|apply wc_exit|apply qk_thn_ret|apply qk_in_ret|apply qk_in|apply qk_thn_exit|apply qk_in_exit|apply qk_round_ret|apply qk_round_exit)|((with_reducible apply ws);exact rfl;exact rfl)|((with_reducible apply wl_yes);exact rfl;exact rfl;exact rfl)|((with_reducible apply wl_no);exact rfl;exact rfl;exact rfl;exact rfl)|((with_reducible apply wl_noU);exact rfl;exact rfl;exact rfl)
  refine wl_min rfl rfl rfl (min_if ds.length) ?_
  refine wl_sliceHi rfl rfl el_bytes rfl (by omega) ?_
  repeat first|(with_reducible first|apply wc_seq|apply wc_region|apply wl_nil|apply qk_thn|apply wc_block|apply wc_skip|apply wc_ret|apply wc_exit|apply qk_thn_ret|apply qk_in_ret|apply qk_in|apply qk_thn_exit|apply qk_in_exit|apply qk_round_ret|apply qk_round_exit)|((with_reducible apply ws);exact rfl;exact rfl)|((with_reducible apply wl_yes);exact rfl;exact rfl;exact rfl)|((with_reducible apply wl_no);exact rfl;exact rfl;exact rfl;exact rfl)|((with_reducible apply wl_noU);exact rfl;exact rfl;exact rfl)
  exact qk_ret1 rfl rfl ⟨_, rfl, Below.refl _ _, rfl, by rw [← take_min ds Most]; exact h.take (by omega)⟩
theorem fn_things (v : Value) (ds : List D) (B : Nat) (w : World) (h : Sq B w v ds) : Fn 35 [v] w fun v' w' => w' = w ∧ Sq B w v' (ds.take Most) := by
  obtain ⟨a, c, rfl, hc⟩ := h.shape
  refine enter Tryd.func35 rfl Tryd.ntmps35 rfl ?_
  repeat first|(with_reducible first|apply wc_seq|apply wc_region|apply wl_nil|apply qk_thn|apply wc_block|apply wc_skip|apply wc_ret|apply wc_exit|apply qk_thn_ret|apply qk_in_ret|apply qk_in|apply qk_thn_exit|apply qk_in_exit|apply qk_round_ret|apply qk_round_exit)|((with_reducible apply ws);exact rfl;exact rfl)|((with_reducible apply wl_yes);exact rfl;exact rfl;exact rfl)|((with_reducible apply wl_no);exact rfl;exact rfl;exact rfl;exact rfl)|((with_reducible apply wl_noU);exact rfl;exact rfl;exact rfl)
  refine wl_min rfl rfl rfl (min_if ds.length) ?_
  refine wl_sliceHi rfl rfl el_trees rfl (by omega) ?_
  repeat first|(with_reducible first|apply wc_seq|apply wc_region|apply wl_nil|apply qk_thn|apply wc_block|apply wc_skip|apply wc_ret|apply wc_exit|apply qk_thn_ret|apply qk_in_ret|apply qk_in|apply qk_thn_exit|apply qk_in_exit|apply qk_round_ret|apply qk_round_exit)|((with_reducible apply ws);exact rfl;exact rfl)|((with_reducible apply wl_yes);exact rfl;exact rfl;exact rfl)|((with_reducible apply wl_no);exact rfl;exact rfl;exact rfl;exact rfl)|((with_reducible apply wl_noU);exact rfl;exact rfl;exact rfl)
  exact qk_ret1 rfl rfl ⟨_, rfl, Below.refl _ _, rfl, by rw [← take_min ds Most]; exact h.take (by omega)⟩

theorem fn_width (k : Int) (w : World) : Fn 39 [.int .i64 k] w fun v' w' => w' = w ∧ v' = .int .i64 (width k : Nat) := by
  refine enter Tryd.func39 rfl Tryd.ntmps39 rfl ?_
  repeat first|(with_reducible first|apply wc_seq|apply wc_region|apply wl_nil|apply qk_thn|apply wc_block|apply wc_skip|apply wc_ret|apply wc_exit|apply qk_thn_ret|apply qk_in_ret|apply qk_in|apply qk_thn_exit|apply qk_in_exit|apply qk_round_ret|apply qk_round_exit)|((with_reducible apply ws);exact rfl;exact rfl)|((with_reducible apply wl_yes);exact rfl;exact rfl;exact rfl)|((with_reducible apply wl_no);exact rfl;exact rfl;exact rfl;exact rfl)|((with_reducible apply wl_noU);exact rfl;exact rfl;exact rfl)
  by_cases h1 : k = 1
  · subst h1
    refine wc_yes rfl (by decide) ?_
    repeat first|(with_reducible first|apply wc_seq|apply wc_region|apply wl_nil|apply qk_thn|apply wc_block|apply wc_skip|apply wc_ret|apply wc_exit|apply qk_thn_ret|apply qk_in_ret|apply qk_in|apply qk_thn_exit|apply qk_in_exit|apply qk_round_ret|apply qk_round_exit)|((with_reducible apply ws);exact rfl;exact rfl)|((with_reducible apply wl_yes);exact rfl;exact rfl;exact rfl)|((with_reducible apply wl_no);exact rfl;exact rfl;exact rfl;exact rfl)|((with_reducible apply wl_noU);exact rfl;exact rfl;exact rfl)
    exact qk_ret1 rfl rfl ⟨_, rfl, Below.refl _ _, rfl, rfl⟩
  · refine wc_no rfl (by simpa using h1) ?_
    repeat first|(with_reducible first|apply wc_seq|apply wc_region|apply wl_nil|apply qk_thn|apply wc_block|apply wc_skip|apply wc_ret|apply wc_exit|apply qk_thn_ret|apply qk_in_ret|apply qk_in|apply qk_thn_exit|apply qk_in_exit|apply qk_round_ret|apply qk_round_exit)|((with_reducible apply ws);exact rfl;exact rfl)|((with_reducible apply wl_yes);exact rfl;exact rfl;exact rfl)|((with_reducible apply wl_no);exact rfl;exact rfl;exact rfl;exact rfl)|((with_reducible apply wl_noU);exact rfl;exact rfl;exact rfl)
    by_cases h2 : k = 2
    · subst h2
      refine wc_yes rfl (by decide) ?_
      repeat first|(with_reducible first|apply wc_seq|apply wc_region|apply wl_nil|apply qk_thn|apply wc_block|apply wc_skip|apply wc_ret|apply wc_exit|apply qk_thn_ret|apply qk_in_ret|apply qk_in|apply qk_thn_exit|apply qk_in_exit|apply qk_round_ret|apply qk_round_exit)|((with_reducible apply ws);exact rfl;exact rfl)|((with_reducible apply wl_yes);exact rfl;exact rfl;exact rfl)|((with_reducible apply wl_no);exact rfl;exact rfl;exact rfl;exact rfl)|((with_reducible apply wl_noU);exact rfl;exact rfl;exact rfl)
      refine wc_yes rfl (by decide) ?_
      repeat first|(with_reducible first|apply wc_seq|apply wc_region|apply wl_nil|apply qk_thn|apply wc_block|apply wc_skip|apply wc_ret|apply wc_exit|apply qk_thn_ret|apply qk_in_ret|apply qk_in|apply qk_thn_exit|apply qk_in_exit|apply qk_round_ret|apply qk_round_exit)|((with_reducible apply ws);exact rfl;exact rfl)|((with_reducible apply wl_yes);exact rfl;exact rfl;exact rfl)|((with_reducible apply wl_no);exact rfl;exact rfl;exact rfl;exact rfl)|((with_reducible apply wl_noU);exact rfl;exact rfl;exact rfl)
      exact qk_ret1 rfl rfl ⟨_, rfl, Below.refl _ _, rfl, rfl⟩
    · refine wc_no rfl (by simpa using h2) ?_
      repeat first|(with_reducible first|apply wc_seq|apply wc_region|apply wl_nil|apply qk_thn|apply wc_block|apply wc_skip|apply wc_ret|apply wc_exit|apply qk_thn_ret|apply qk_in_ret|apply qk_in|apply qk_thn_exit|apply qk_in_exit|apply qk_round_ret|apply qk_round_exit)|((with_reducible apply ws);exact rfl;exact rfl)|((with_reducible apply wl_yes);exact rfl;exact rfl;exact rfl)|((with_reducible apply wl_no);exact rfl;exact rfl;exact rfl;exact rfl)|((with_reducible apply wl_noU);exact rfl;exact rfl;exact rfl)
      by_cases h5 : k = 5
      · subst h5
        refine wc_yes rfl (by decide) ?_
        repeat first|(with_reducible first|apply wc_seq|apply wc_region|apply wl_nil|apply qk_thn|apply wc_block|apply wc_skip|apply wc_ret|apply wc_exit|apply qk_thn_ret|apply qk_in_ret|apply qk_in|apply qk_thn_exit|apply qk_in_exit|apply qk_round_ret|apply qk_round_exit)|((with_reducible apply ws);exact rfl;exact rfl)|((with_reducible apply wl_yes);exact rfl;exact rfl;exact rfl)|((with_reducible apply wl_no);exact rfl;exact rfl;exact rfl;exact rfl)|((with_reducible apply wl_noU);exact rfl;exact rfl;exact rfl)
        exact qk_ret1 rfl rfl ⟨_, rfl, Below.refl _ _, rfl, rfl⟩
      · refine wc_no rfl (by simpa using h5) ?_
        repeat first|(with_reducible first|apply wc_seq|apply wc_region|apply wl_nil|apply qk_thn|apply wc_block|apply wc_skip|apply wc_ret|apply wc_exit|apply qk_thn_ret|apply qk_in_ret|apply qk_in|apply qk_thn_exit|apply qk_in_exit|apply qk_round_ret|apply qk_round_exit)|((with_reducible apply ws);exact rfl;exact rfl)|((with_reducible apply wl_yes);exact rfl;exact rfl;exact rfl)|((with_reducible apply wl_no);exact rfl;exact rfl;exact rfl;exact rfl)|((with_reducible apply wl_noU);exact rfl;exact rfl;exact rfl)
        by_cases h3 : k = 3
        · subst h3
          refine wc_yes rfl (by decide) ?_
          repeat first|(with_reducible first|apply wc_seq|apply wc_region|apply wl_nil|apply qk_thn|apply wc_block|apply wc_skip|apply wc_ret|apply wc_exit|apply qk_thn_ret|apply qk_in_ret|apply qk_in|apply qk_thn_exit|apply qk_in_exit|apply qk_round_ret|apply qk_round_exit)|((with_reducible apply ws);exact rfl;exact rfl)|((with_reducible apply wl_yes);exact rfl;exact rfl;exact rfl)|((with_reducible apply wl_no);exact rfl;exact rfl;exact rfl;exact rfl)|((with_reducible apply wl_noU);exact rfl;exact rfl;exact rfl)
          exact qk_ret1 rfl rfl ⟨_, rfl, Below.refl _ _, rfl, rfl⟩
        · refine wc_no rfl (by simpa using h3) ?_
          repeat first|(with_reducible first|apply wc_seq|apply wc_region|apply wl_nil|apply qk_thn|apply wc_block|apply wc_skip|apply wc_ret|apply wc_exit|apply qk_thn_ret|apply qk_in_ret|apply qk_in|apply qk_thn_exit|apply qk_in_exit|apply qk_round_ret|apply qk_round_exit)|((with_reducible apply ws);exact rfl;exact rfl)|((with_reducible apply wl_yes);exact rfl;exact rfl;exact rfl)|((with_reducible apply wl_no);exact rfl;exact rfl;exact rfl;exact rfl)|((with_reducible apply wl_noU);exact rfl;exact rfl;exact rfl)
          exact qk_ret1 rfl rfl ⟨_, rfl, Below.refl _ _, rfl, by simp [width, h1, h2, h5, h3]⟩

theorem cell_low (z : Int) : Value.int .u8 (IntKind.u8.wrap z) = .int .u8 ((lowByte z).toNat : Int) := by rw [wrap_u8]
/-- The loop's state: how many octets are still to come, the slice, what it holds. -/
structure FxS where
  k : Nat
  d : Value
  xs : List UInt8
theorem fn_fixed (n : Int) (size : Nat) (hs : size ≤ 8) (w : World) : Fn 38 [.int .i64 n, .int .i64 (size : Int)] w fun v w' => Own w' w.heap.size 5 v (be size n) := by
  refine enter Tryd.func38 rfl Tryd.ntmps38 rfl ?_
  repeat first|(with_reducible first|apply wc_seq|apply wc_region|apply wl_nil|apply qk_thn|apply wc_block|apply wc_skip|apply wc_ret|apply wc_exit|apply qk_thn_ret|apply qk_in_ret|apply qk_in|apply qk_thn_exit|apply qk_in_exit|apply qk_round_ret|apply qk_round_exit)|((with_reducible apply ws);exact rfl;exact rfl)|((with_reducible apply wl_yes);exact rfl;exact rfl;exact rfl)|((with_reducible apply wl_no);exact rfl;exact rfl;exact rfl;exact rfl)|((with_reducible apply wl_noU);exact rfl;exact rfl;exact rfl)
  refine wl_sub' rfl rfl rfl (r := (size : Int) - 1) (by rw [IntKind.wrap_i64]; omega) ?_
  repeat first|(with_reducible first|apply wc_seq|apply wc_region|apply wl_nil|apply qk_thn|apply wc_block|apply wc_skip|apply wc_ret|apply wc_exit|apply qk_thn_ret|apply qk_in_ret|apply qk_in|apply qk_thn_exit|apply qk_in_exit|apply qk_round_ret|apply qk_round_exit)|((with_reducible apply ws);exact rfl;exact rfl)|((with_reducible apply wl_yes);exact rfl;exact rfl;exact rfl)|((with_reducible apply wl_no);exact rfl;exact rfl;exact rfl;exact rfl)|((with_reducible apply wl_noU);exact rfl;exact rfl;exact rfl)
  refine wc_loop (α := FxS) (fun x => [(6, .int .i64 ((x.k : Int) - 1)), (5, x.d), (0, .int .i64 n)]) (fun x w' => x.k ≤ size ∧ x.xs ++ be x.k n = be size n ∧ Own w' w.heap.size 5 x.d x.xs ∧ Below w.heap.size w w') (fun x => x.k) ⟨size, .slice none 0 0, []⟩ ⟨rfl, rfl, rfl, trivial⟩ ⟨Nat.le_refl _, rfl, Own.nil _ _ _, Below.refl _ _⟩ ?_
  rintro ⟨k, d, xs⟩ w1 ⟨hk, hx, ho, hb⟩
  simp only [] at hk hx ho
  change WC _ _ _ _ [(6, .int .i64 ((k : Int) - 1)), (5, d), (0, .int .i64 n)] _
  repeat first|(with_reducible first|apply wc_seq|apply wc_region|apply wl_nil|apply qk_thn|apply wc_block|apply wc_skip|apply wc_ret|apply wc_exit|apply qk_thn_ret|apply qk_in_ret|apply qk_in|apply qk_thn_exit|apply qk_in_exit|apply qk_round_ret|apply qk_round_exit)|((with_reducible apply ws);exact rfl;exact rfl)|((with_reducible apply wl_yes);exact rfl;exact rfl;exact rfl)|((with_reducible apply wl_no);exact rfl;exact rfl;exact rfl;exact rfl)|((with_reducible apply wl_noU);exact rfl;exact rfl;exact rfl)
  cases k with
  | zero =>
    refine wc_no rfl (by decide) ?_
    repeat first|(with_reducible first|apply wc_seq|apply wc_region|apply wl_nil|apply qk_thn|apply wc_block|apply wc_skip|apply wc_ret|apply wc_exit|apply qk_thn_ret|apply qk_in_ret|apply qk_in|apply qk_thn_exit|apply qk_in_exit|apply qk_round_ret|apply qk_round_exit)|((with_reducible apply ws);exact rfl;exact rfl)|((with_reducible apply wl_yes);exact rfl;exact rfl;exact rfl)|((with_reducible apply wl_no);exact rfl;exact rfl;exact rfl;exact rfl)|((with_reducible apply wl_noU);exact rfl;exact rfl;exact rfl)
    simp only [be, List.append_nil] at hx
    exact qk_ret1 rfl rfl ⟨_, rfl, hb, hx ▸ ho⟩
  | succ k =>
    refine wc_yes rfl (by simp) ?_
    repeat first|(with_reducible first|apply wc_seq|apply wc_region|apply wl_nil|apply qk_thn|apply wc_block|apply wc_skip|apply wc_ret|apply wc_exit|apply qk_thn_ret|apply qk_in_ret|apply qk_in|apply qk_thn_exit|apply qk_in_exit|apply qk_round_ret|apply qk_round_exit)|((with_reducible apply ws);exact rfl;exact rfl)|((with_reducible apply wl_yes);exact rfl;exact rfl;exact rfl)|((with_reducible apply wl_no);exact rfl;exact rfl;exact rfl;exact rfl)|((with_reducible apply wl_noU);exact rfl;exact rfl;exact rfl)
    refine wl_mul rfl rfl rfl (r := ((8 * k : Nat) : Int)) (by rw [IntKind.wrap_i64]; omega) ?_
    refine wl_shrV rfl rfl rfl (by omega) (r := n / (2 ^ (8 * k) : Nat)) ?_ ?_
    · rw [show min ((8 * k : Nat) : Int).toNat IntKind.i64.bits = 8 * k from by simp [IntKind.bits]; omega, Int.fdiv_eq_ediv_of_nonneg _ (by exact_mod_cast Nat.zero_le _)]
      push_cast; rfl
    refine wl_conv .u8 rfl ti_l64 ti_u8 rfl (wrap_u8 _) ?_
    refine wl_appLit tb_bytes rfl (ys := [lowByte (n / (2 ^ (8 * k) : Nat))]) rfl rfl rfl rfl rfl rfl ho hb.size ?_ (fun d' w2 ho2 hg2 => ?_)
    · have := congrArg List.length hx
      simp only [List.length_append, be_length] at this
      simp only [List.length_cons, List.length_nil, lim]
      omega
    repeat first|(with_reducible first|apply wc_seq|apply wc_region|apply wl_nil|apply qk_thn|apply wc_block|apply wc_skip|apply wc_ret|apply wc_exit|apply qk_thn_ret|apply qk_in_ret|apply qk_in|apply qk_thn_exit|apply qk_in_exit|apply qk_round_ret|apply qk_round_exit)|((with_reducible apply ws);exact rfl;exact rfl)|((with_reducible apply wl_yes);exact rfl;exact rfl;exact rfl)|((with_reducible apply wl_no);exact rfl;exact rfl;exact rfl;exact rfl)|((with_reducible apply wl_noU);exact rfl;exact rfl;exact rfl)
    refine wl_sub' rfl rfl rfl (r := (k : Int) - 1) (by rw [IntKind.wrap_i64]; omega) ?_
    repeat first|(with_reducible first|apply wc_seq|apply wc_region|apply wl_nil|apply qk_thn|apply wc_block|apply wc_skip|apply wc_ret|apply wc_exit|apply qk_thn_ret|apply qk_in_ret|apply qk_in|apply qk_thn_exit|apply qk_in_exit|apply qk_round_ret|apply qk_round_exit)|((with_reducible apply ws);exact rfl;exact rfl)|((with_reducible apply wl_yes);exact rfl;exact rfl;exact rfl)|((with_reducible apply wl_no);exact rfl;exact rfl;exact rfl;exact rfl)|((with_reducible apply wl_noU);exact rfl;exact rfl;exact rfl)
    refine qk_round ⟨k, d', xs ++ [lowByte (n / (2 ^ (8 * k) : Nat))]⟩ ⟨rfl, rfl, rfl, trivial⟩ ⟨by simp only []; omega, ?_, ho2, hb.trans (hg2.below hb.size ho.ge)⟩ (by simp)
    simp only [List.append_assoc]
    rw [← hx]; rfl

theorem uvar_pos (n : Nat) : 1 ≤ (uvar n).length := by rw [uvar]; split <;> simp
theorem uvar_len_le : ∀ (k n : Nat), n < 2 ^ (7 * k) → (uvar n).length ≤ k + 1
  | 0, n, h => by rw [uvar_lt (by simpa using (by omega : n < 128))]; simp
  | k + 1, n, h => by
    by_cases h1 : n < 128
    · rw [uvar_lt h1]; simp
    · rw [uvar_ge (by omega)]
      have := uvar_len_le k (n / 128) (by
        rw [show 7 * (k + 1) = 7 * k + 7 from by omega, Nat.pow_add] at h
        exact Nat.div_lt_of_lt_mul (by rw [Nat.mul_comm]; exact h))
      simp only [List.length_cons]; omega
structure UvS where
  m : Nat
  d : Value
  xs : List UInt8
theorem fn_uvarint (n : Nat) (hn : n < 18446744073709551616) (w : World) : Fn 27 [.int .u64 (n : Int)] w fun v w' => Own w' w.heap.size 5 v (uvar n) := by
  have hlen : (uvar n).length ≤ 11 := uvar_len_le 10 n (Nat.lt_of_lt_of_le hn (by decide))
  refine enter Tryd.func27 rfl Tryd.ntmps27 rfl ?_
  repeat first|(with_reducible first|apply wc_seq|apply wc_region|apply wl_nil|apply qk_thn|apply wc_block|apply wc_skip|apply wc_ret|apply wc_exit|apply qk_thn_ret|apply qk_in_ret|apply qk_in|apply qk_thn_exit|apply qk_in_exit|apply qk_round_ret|apply qk_round_exit)|((with_reducible apply ws);exact rfl;exact rfl)|((with_reducible apply wl_yes);exact rfl;exact rfl;exact rfl)|((with_reducible apply wl_no);exact rfl;exact rfl;exact rfl;exact rfl)|((with_reducible apply wl_noU);exact rfl;exact rfl;exact rfl)
  refine wc_loop (α := UvS) (fun x => [(0, .int .u64 (x.m : Int)), (3, x.d)]) (fun x w' => x.m ≤ n ∧ x.xs ++ uvar x.m = uvar n ∧ Own w' w.heap.size 5 x.d x.xs ∧ Below w.heap.size w w') (fun x => x.m) ⟨n, .slice none 0 0, []⟩ ⟨rfl, rfl, trivial⟩ ⟨Nat.le_refl _, rfl, Own.nil _ _ _, Below.refl _ _⟩ ?_
  rintro ⟨m, d, xs⟩ w1 ⟨hm, hx, ho, hb⟩
  simp only [] at hm hx ho
  change WC _ _ _ _ [(0, .int .u64 (m : Int)), (3, d)] _
  have hl := congrArg List.length hx
  simp only [List.length_append] at hl
  have := uvar_pos m
  repeat first|(with_reducible first|apply wc_seq|apply wc_region|apply wl_nil|apply qk_thn|apply wc_block|apply wc_skip|apply wc_ret|apply wc_exit|apply qk_thn_ret|apply qk_in_ret|apply qk_in|apply qk_thn_exit|apply qk_in_exit|apply qk_round_ret|apply qk_round_exit)|((with_reducible apply ws);exact rfl;exact rfl)|((with_reducible apply wl_yes);exact rfl;exact rfl;exact rfl)|((with_reducible apply wl_no);exact rfl;exact rfl;exact rfl;exact rfl)|((with_reducible apply wl_noU);exact rfl;exact rfl;exact rfl)
  by_cases h : m < 128
  · refine wc_no rfl (by simp; omega) ?_
    repeat first|(with_reducible first|apply wc_seq|apply wc_region|apply wl_nil|apply qk_thn|apply wc_block|apply wc_skip|apply wc_ret|apply wc_exit|apply qk_thn_ret|apply qk_in_ret|apply qk_in|apply qk_thn_exit|apply qk_in_exit|apply qk_round_ret|apply qk_round_exit)|((with_reducible apply ws);exact rfl;exact rfl)|((with_reducible apply wl_yes);exact rfl;exact rfl;exact rfl)|((with_reducible apply wl_no);exact rfl;exact rfl;exact rfl;exact rfl)|((with_reducible apply wl_noU);exact rfl;exact rfl;exact rfl)
    refine wl_conv .u8 rfl ti_u64 ti_u8 rfl (r := ((UInt8.ofNat m).toNat : Int)) (by rw [byteNat m (by omega), IntKind.wrap_u8]; omega) ?_
    refine wl_appLit tb_bytes rfl (ys := [UInt8.ofNat m]) rfl rfl rfl rfl rfl rfl ho hb.size (by simp only [List.length_cons, List.length_nil, lim]; omega) (fun d' w2 ho2 hg2 => ?_)
    repeat first|(with_reducible first|apply wc_seq|apply wc_region|apply wl_nil|apply qk_thn|apply wc_block|apply wc_skip|apply wc_ret|apply wc_exit|apply qk_thn_ret|apply qk_in_ret|apply qk_in|apply qk_thn_exit|apply qk_in_exit|apply qk_round_ret|apply qk_round_exit)|((with_reducible apply ws);exact rfl;exact rfl)|((with_reducible apply wl_yes);exact rfl;exact rfl;exact rfl)|((with_reducible apply wl_no);exact rfl;exact rfl;exact rfl;exact rfl)|((with_reducible apply wl_noU);exact rfl;exact rfl;exact rfl)
    rw [uvar_lt h] at hx
    exact qk_ret1 rfl rfl ⟨_, rfl, hb.trans (hg2.below hb.size ho.ge), hx ▸ ho2⟩
  · refine wc_yes rfl (by simp; omega) ?_
    repeat first|(with_reducible first|apply wc_seq|apply wc_region|apply wl_nil|apply qk_thn|apply wc_block|apply wc_skip|apply wc_ret|apply wc_exit|apply qk_thn_ret|apply qk_in_ret|apply qk_in|apply qk_thn_exit|apply qk_in_exit|apply qk_round_ret|apply qk_round_exit)|((with_reducible apply ws);exact rfl;exact rfl)|((with_reducible apply wl_yes);exact rfl;exact rfl;exact rfl)|((with_reducible apply wl_no);exact rfl;exact rfl;exact rfl;exact rfl)|((with_reducible apply wl_noU);exact rfl;exact rfl;exact rfl)
    refine wl_and rfl rfl rfl (and127w m (by omega)) ?_
    refine wl_conv .u8 rfl ti_u64 ti_u8 rfl (r := ((m % 128 : Nat) : Int)) (by rw [IntKind.wrap_u8]; omega) ?_
    refine wl_or rfl rfl rfl (r := ((UInt8.ofNat (m % 128 + 128)).toNat : Int)) (by rw [or128b _ (by omega), byteNat _ (by omega)]) ?_
    refine wl_appLit tb_bytes rfl (ys := [UInt8.ofNat (m % 128 + 128)]) rfl rfl rfl rfl rfl rfl ho hb.size (by simp only [List.length_cons, List.length_nil, lim]; omega) (fun d' w2 ho2 hg2 => ?_)
    repeat first|(with_reducible first|apply wc_seq|apply wc_region|apply wl_nil|apply qk_thn|apply wc_block|apply wc_skip|apply wc_ret|apply wc_exit|apply qk_thn_ret|apply qk_in_ret|apply qk_in|apply qk_thn_exit|apply qk_in_exit|apply qk_round_ret|apply qk_round_exit)|((with_reducible apply ws);exact rfl;exact rfl)|((with_reducible apply wl_yes);exact rfl;exact rfl;exact rfl)|((with_reducible apply wl_no);exact rfl;exact rfl;exact rfl;exact rfl)|((with_reducible apply wl_noU);exact rfl;exact rfl;exact rfl)
    refine wl_shr rfl rfl rfl (r := ((m / 128 : Nat) : Int)) (shr_nat m 7 64 (by omega)) ?_
    repeat first|(with_reducible first|apply wc_seq|apply wc_region|apply wl_nil|apply qk_thn|apply wc_block|apply wc_skip|apply wc_ret|apply wc_exit|apply qk_thn_ret|apply qk_in_ret|apply qk_in|apply qk_thn_exit|apply qk_in_exit|apply qk_round_ret|apply qk_round_exit)|((with_reducible apply ws);exact rfl;exact rfl)|((with_reducible apply wl_yes);exact rfl;exact rfl;exact rfl)|((with_reducible apply wl_no);exact rfl;exact rfl;exact rfl;exact rfl)|((with_reducible apply wl_noU);exact rfl;exact rfl;exact rfl)
    refine qk_round ⟨m / 128, d', xs ++ [UInt8.ofNat (m % 128 + 128)]⟩ ⟨rfl, rfl, trivial⟩ ⟨by simp only []; omega, ?_, ho2, hb.trans (hg2.below hb.size ho.ge)⟩ (by simp only []; omega)
    simp only [List.append_assoc]
    rw [← hx, uvar_ge (n := m) (by omega)]; rfl

theorem fn_counted (flex null : Bool) (n size : Nat) (hn : n < 9223372036854775807) (hs : size ≤ 8) (w : World) :
    Fn 36 [.bool flex, .bool null, .int .i64 (n : Int), .int .i64 (size : Int)] w fun v w' => Own w' w.heap.size 5 v (counted flex null n size) := by
  refine enter Tryd.func36 rfl Tryd.ntmps36 rfl ?_
  repeat first|(with_reducible first|apply wc_seq|apply wc_region|apply wl_nil|apply qk_thn|apply wc_block|apply wc_skip|apply wc_ret|apply wc_exit|apply qk_thn_ret|apply qk_in_ret|apply qk_in|apply qk_thn_exit|apply qk_in_exit|apply qk_round_ret|apply qk_round_exit)|((with_reducible apply ws);exact rfl;exact rfl)|((with_reducible apply wl_yes);exact rfl;exact rfl;exact rfl)|((with_reducible apply wl_no);exact rfl;exact rfl;exact rfl;exact rfl)|((with_reducible apply wl_noU);exact rfl;exact rfl;exact rfl)
  cases flex
  · repeat first|(with_reducible first|apply wc_seq|apply wc_region|apply wl_nil|apply qk_thn|apply wc_block|apply wc_skip|apply wc_ret|apply wc_exit|apply qk_thn_ret|apply qk_in_ret|apply qk_in|apply qk_thn_exit|apply qk_in_exit|apply qk_round_ret|apply qk_round_exit)|((with_reducible apply ws);exact rfl;exact rfl)|((with_reducible apply wl_yes);exact rfl;exact rfl;exact rfl)|((with_reducible apply wl_no);exact rfl;exact rfl;exact rfl;exact rfl)|((with_reducible apply wl_noU);exact rfl;exact rfl;exact rfl)
    refine wc_no rfl rfl ?_
    repeat first|(with_reducible first|apply wc_seq|apply wc_region|apply wl_nil|apply qk_thn|apply wc_block|apply wc_skip|apply wc_ret|apply wc_exit|apply qk_thn_ret|apply qk_in_ret|apply qk_in|apply qk_thn_exit|apply qk_in_exit|apply qk_round_ret|apply qk_round_exit)|((with_reducible apply ws);exact rfl;exact rfl)|((with_reducible apply wl_yes);exact rfl;exact rfl;exact rfl)|((with_reducible apply wl_no);exact rfl;exact rfl;exact rfl;exact rfl)|((with_reducible apply wl_noU);exact rfl;exact rfl;exact rfl)
    refine wc_no rfl rfl ?_
    repeat first|(with_reducible first|apply wc_seq|apply wc_region|apply wl_nil|apply qk_thn|apply wc_block|apply wc_skip|apply wc_ret|apply wc_exit|apply qk_thn_ret|apply qk_in_ret|apply qk_in|apply qk_thn_exit|apply qk_in_exit|apply qk_round_ret|apply qk_round_exit)|((with_reducible apply ws);exact rfl;exact rfl)|((with_reducible apply wl_yes);exact rfl;exact rfl;exact rfl)|((with_reducible apply wl_no);exact rfl;exact rfl;exact rfl;exact rfl)|((with_reducible apply wl_noU);exact rfl;exact rfl;exact rfl)
    cases null
    · refine wc_no rfl rfl ?_
      repeat first|(with_reducible first|apply wc_seq|apply wc_region|apply wl_nil|apply qk_thn|apply wc_block|apply wc_skip|apply wc_ret|apply wc_exit|apply qk_thn_ret|apply qk_in_ret|apply qk_in|apply qk_thn_exit|apply qk_in_exit|apply qk_round_ret|apply qk_round_exit)|((with_reducible apply ws);exact rfl;exact rfl)|((with_reducible apply wl_yes);exact rfl;exact rfl;exact rfl)|((with_reducible apply wl_no);exact rfl;exact rfl;exact rfl;exact rfl)|((with_reducible apply wl_noU);exact rfl;exact rfl;exact rfl)
      refine wl_call rfl (by kernel_rfl) rfl ((fn_fixed n size hs w).mono ?_)
      rintro e w' ⟨v, rfl, hb, ho⟩
      refine ⟨v, rfl, ?_⟩
      repeat first|(with_reducible first|apply wc_seq|apply wc_region|apply wl_nil|apply qk_thn|apply wc_block|apply wc_skip|apply wc_ret|apply wc_exit|apply qk_thn_ret|apply qk_in_ret|apply qk_in|apply qk_thn_exit|apply qk_in_exit|apply qk_round_ret|apply qk_round_exit)|((with_reducible apply ws);exact rfl;exact rfl)|((with_reducible apply wl_yes);exact rfl;exact rfl;exact rfl)|((with_reducible apply wl_no);exact rfl;exact rfl;exact rfl;exact rfl)|((with_reducible apply wl_noU);exact rfl;exact rfl;exact rfl)
      exact qk_ret1 rfl rfl ⟨_, rfl, hb, by simpa [counted] using ho⟩
    · refine wc_yes rfl rfl ?_
      repeat first|(with_reducible first|apply wc_seq|apply wc_region|apply wl_nil|apply qk_thn|apply wc_block|apply wc_skip|apply wc_ret|apply wc_exit|apply qk_thn_ret|apply qk_in_ret|apply qk_in|apply qk_thn_exit|apply qk_in_exit|apply qk_round_ret|apply qk_round_exit)|((with_reducible apply ws);exact rfl;exact rfl)|((with_reducible apply wl_yes);exact rfl;exact rfl;exact rfl)|((with_reducible apply wl_no);exact rfl;exact rfl;exact rfl;exact rfl)|((with_reducible apply wl_noU);exact rfl;exact rfl;exact rfl)
      refine wl_call rfl (by kernel_rfl) rfl ((fn_fixed (-1) size hs w).mono ?_)
      rintro e w' ⟨v, rfl, hb, ho⟩
      refine ⟨v, rfl, ?_⟩
      repeat first|(with_reducible first|apply wc_seq|apply wc_region|apply wl_nil|apply qk_thn|apply wc_block|apply wc_skip|apply wc_ret|apply wc_exit|apply qk_thn_ret|apply qk_in_ret|apply qk_in|apply qk_thn_exit|apply qk_in_exit|apply qk_round_ret|apply qk_round_exit)|((with_reducible apply ws);exact rfl;exact rfl)|((with_reducible apply wl_yes);exact rfl;exact rfl;exact rfl)|((with_reducible apply wl_no);exact rfl;exact rfl;exact rfl;exact rfl)|((with_reducible apply wl_noU);exact rfl;exact rfl;exact rfl)
      exact qk_ret1 rfl rfl ⟨_, rfl, hb, by simpa [counted] using ho⟩
  · repeat first|(with_reducible first|apply wc_seq|apply wc_region|apply wl_nil|apply qk_thn|apply wc_block|apply wc_skip|apply wc_ret|apply wc_exit|apply qk_thn_ret|apply qk_in_ret|apply qk_in|apply qk_thn_exit|apply qk_in_exit|apply qk_round_ret|apply qk_round_exit)|((with_reducible apply ws);exact rfl;exact rfl)|((with_reducible apply wl_yes);exact rfl;exact rfl;exact rfl)|((with_reducible apply wl_no);exact rfl;exact rfl;exact rfl;exact rfl)|((with_reducible apply wl_noU);exact rfl;exact rfl;exact rfl)
    cases null
    · refine wc_no rfl rfl ?_
      repeat first|(with_reducible first|apply wc_seq|apply wc_region|apply wl_nil|apply qk_thn|apply wc_block|apply wc_skip|apply wc_ret|apply wc_exit|apply qk_thn_ret|apply qk_in_ret|apply qk_in|apply qk_thn_exit|apply qk_in_exit|apply qk_round_ret|apply qk_round_exit)|((with_reducible apply ws);exact rfl;exact rfl)|((with_reducible apply wl_yes);exact rfl;exact rfl;exact rfl)|((with_reducible apply wl_no);exact rfl;exact rfl;exact rfl;exact rfl)|((with_reducible apply wl_noU);exact rfl;exact rfl;exact rfl)
      refine wc_yes rfl rfl ?_
      repeat first|(with_reducible first|apply wc_seq|apply wc_region|apply wl_nil|apply qk_thn|apply wc_block|apply wc_skip|apply wc_ret|apply wc_exit|apply qk_thn_ret|apply qk_in_ret|apply qk_in|apply qk_thn_exit|apply qk_in_exit|apply qk_round_ret|apply qk_round_exit)|((with_reducible apply ws);exact rfl;exact rfl)|((with_reducible apply wl_yes);exact rfl;exact rfl;exact rfl)|((with_reducible apply wl_no);exact rfl;exact rfl;exact rfl;exact rfl)|((with_reducible apply wl_noU);exact rfl;exact rfl;exact rfl)
      refine wl_conv .u64 rfl ti_i64 ti_u64 rfl (r := (n : Int)) (by rw [IntKind.wrap_u64]; omega) ?_
      refine wl_add rfl rfl rfl (r := ((n + 1 : Nat) : Int)) (by rw [IntKind.wrap_u64]; omega) ?_
      refine wl_call rfl (by kernel_rfl) rfl ((fn_uvarint (n + 1) (by omega) w).mono ?_)
      rintro e w' ⟨v, rfl, hb, ho⟩
      refine ⟨v, rfl, ?_⟩
      repeat first|(with_reducible first|apply wc_seq|apply wc_region|apply wl_nil|apply qk_thn|apply wc_block|apply wc_skip|apply wc_ret|apply wc_exit|apply qk_thn_ret|apply qk_in_ret|apply qk_in|apply qk_thn_exit|apply qk_in_exit|apply qk_round_ret|apply qk_round_exit)|((with_reducible apply ws);exact rfl;exact rfl)|((with_reducible apply wl_yes);exact rfl;exact rfl;exact rfl)|((with_reducible apply wl_no);exact rfl;exact rfl;exact rfl;exact rfl)|((with_reducible apply wl_noU);exact rfl;exact rfl;exact rfl)
      exact qk_ret1 rfl rfl ⟨_, rfl, hb, by simpa [counted] using ho⟩
    · refine wc_yes rfl rfl ?_
      repeat first|(with_reducible first|apply wc_seq|apply wc_region|apply wl_nil|apply qk_thn|apply wc_block|apply wc_skip|apply wc_ret|apply wc_exit|apply qk_thn_ret|apply qk_in_ret|apply qk_in|apply qk_thn_exit|apply qk_in_exit|apply qk_round_ret|apply qk_round_exit)|((with_reducible apply ws);exact rfl;exact rfl)|((with_reducible apply wl_yes);exact rfl;exact rfl;exact rfl)|((with_reducible apply wl_no);exact rfl;exact rfl;exact rfl;exact rfl)|((with_reducible apply wl_noU);exact rfl;exact rfl;exact rfl)
      refine wl_lit tb_bytes rfl (ys := [0]) rfl rfl rfl rfl (fun w1 ho hb => ?_)
      repeat first|(with_reducible first|apply wc_seq|apply wc_region|apply wl_nil|apply qk_thn|apply wc_block|apply wc_skip|apply wc_ret|apply wc_exit|apply qk_thn_ret|apply qk_in_ret|apply qk_in|apply qk_thn_exit|apply qk_in_exit|apply qk_round_ret|apply qk_round_exit)|((with_reducible apply ws);exact rfl;exact rfl)|((with_reducible apply wl_yes);exact rfl;exact rfl;exact rfl)|((with_reducible apply wl_no);exact rfl;exact rfl;exact rfl;exact rfl)|((with_reducible apply wl_noU);exact rfl;exact rfl;exact rfl)
      exact qk_ret1 rfl rfl ⟨_, rfl, hb, by simpa [counted] using ho⟩

theorem fn_version (n most : Nat) (hn : n < 256) (hm : most < 32768) (w : World) : Fn 7 [.int .u8 (n : Int), .int .i64 (most : Int)] w fun v w' => w' = w ∧ v = .int .i64 ((n % (most + 1) : Nat) : Int) := by
  refine enter Tryd.func7 rfl Tryd.ntmps7 rfl ?_
  repeat first|(with_reducible first|apply wc_seq|apply wc_region|apply wl_nil|apply qk_thn|apply wc_block|apply wc_skip|apply wc_ret|apply wc_exit|apply qk_thn_ret|apply qk_in_ret|apply qk_in|apply qk_thn_exit|apply qk_in_exit|apply qk_round_ret|apply qk_round_exit)|((with_reducible apply ws);exact rfl;exact rfl)|((with_reducible apply wl_yes);exact rfl;exact rfl;exact rfl)|((with_reducible apply wl_no);exact rfl;exact rfl;exact rfl;exact rfl)|((with_reducible apply wl_noU);exact rfl;exact rfl;exact rfl)
  refine wl_conv .i64 rfl ti_u8 ti_i64 rfl (r := (n : Int)) (by rw [IntKind.wrap_i64]; omega) ?_
  repeat first|(with_reducible first|apply wc_seq|apply wc_region|apply wl_nil|apply qk_thn|apply wc_block|apply wc_skip|apply wc_ret|apply wc_exit|apply qk_thn_ret|apply qk_in_ret|apply qk_in|apply qk_thn_exit|apply qk_in_exit|apply qk_round_ret|apply qk_round_exit)|((with_reducible apply ws);exact rfl;exact rfl)|((with_reducible apply wl_yes);exact rfl;exact rfl;exact rfl)|((with_reducible apply wl_no);exact rfl;exact rfl;exact rfl;exact rfl)|((with_reducible apply wl_noU);exact rfl;exact rfl;exact rfl)
  refine wl_add rfl rfl rfl (r := ((most + 1 : Nat) : Int)) (by rw [IntKind.wrap_i64]; omega) ?_
  refine wl_rem rfl rfl rfl (by omega) (by omega) (r := ((n % (most + 1) : Nat) : Int)) (by push_cast; rfl) ?_
  repeat first|(with_reducible first|apply wc_seq|apply wc_region|apply wl_nil|apply qk_thn|apply wc_block|apply wc_skip|apply wc_ret|apply wc_exit|apply qk_thn_ret|apply qk_in_ret|apply qk_in|apply qk_thn_exit|apply qk_in_exit|apply qk_round_ret|apply qk_round_exit)|((with_reducible apply ws);exact rfl;exact rfl)|((with_reducible apply wl_yes);exact rfl;exact rfl;exact rfl)|((with_reducible apply wl_no);exact rfl;exact rfl;exact rfl;exact rfl)|((with_reducible apply wl_noU);exact rfl;exact rfl;exact rfl)
  exact qk_ret1 rfl rfl ⟨_, rfl, Below.refl _ _, rfl, rfl⟩
end
end Go.Proofs.YtgblofcjkgbojaaDoor

/- The reference's functions that compare octets, and count tags: what each comes to. -/
namespace Go.Proofs.YtgblofcjkgbojaaDoor
open Go Go.RowKit

theorem BytesAt.below {w w' : World} {v : Value} {ys : List UInt8} (h : BytesAt w v ys) (hb : Below w.heap.size w w') : BytesAt w' v ys := by
  rcases h with ⟨a, c, rfl, rfl⟩ | ⟨b, off, c, rfl, hc⟩
  · exact .inl ⟨a, c, rfl, rfl⟩
  · exact .inr ⟨b, off, c, rfl, hc.of_block (hb.block b hc.lt)⟩
theorem BytesAt.get {w : World} {v : Value} {ys : List UInt8} (h : BytesAt w v ys) {i : Nat} (hi : i < ys.length) : ∃ b off c, v = .slice (some ⟨b, off, none⟩) ys.length c ∧ w.cell? ⟨b, off + i * 1, none⟩ = some (.int .u8 (ys[i].toNat : Int)) := by
  rcases h with ⟨a, c, rfl, rfl⟩ | ⟨b, off, c, rfl, hc⟩
  · simp at hi
  · refine ⟨b, off, c, rfl, ?_⟩
    rw [Nat.mul_one]
    exact hc.cell (by simp [bv, hi])
theorem take_ne {xs ys : List UInt8} {i : Nat} (hx : i < xs.length) (hy : i < ys.length) (h : xs[i] ≠ ys[i]) : (xs == ys) = false := by
  rw [beq_eq_false_iff_ne]
  rintro rfl
  exact h rfl
theorem u8_ne {a b : UInt8} : ((a.toNat : Int) != (b.toNat : Int)) = (a != b) := by
  rw [Bool.eq_iff_iff]
  simp only [bne_iff_ne, ne_eq]
  rw [Int.ofNat_inj, UInt8.toNat_inj]

section
set_option maxRecDepth 100000
theorem fn_same (va vb : Value) (xs ys : List UInt8) (w : World) (ha : BytesAt w va xs) (hb : BytesAt w vb ys) (hx : xs.length ≤ lim) (hy : ys.length ≤ lim) :
    Fn 10 [va, vb] w fun v _ => v = .bool (xs == ys) := by
  simp only [lim] at hx hy
  obtain ⟨aa, ca, hva⟩ := ha.shape
  obtain ⟨ab, cb, hvb⟩ := hb.shape
  subst hva; subst hvb
  refine enter Tryd.func10 rfl Tryd.ntmps10 rfl ?_
  repeat first|(with_reducible first|apply wc_seq|apply wc_region|apply wl_nil|apply qk_thn|apply wc_block|apply wc_skip|apply wc_ret|apply wc_exit|apply qk_thn_ret|apply qk_in_ret|apply qk_in|apply qk_thn_exit|apply qk_in_exit|apply qk_round_ret|apply qk_round_exit)|((with_reducible apply ws);exact rfl;exact rfl)|((with_reducible apply wl_yes);exact rfl;exact rfl;exact rfl)|((with_reducible apply wl_no);exact rfl;exact rfl;exact rfl;exact rfl)|((with_reducible apply wl_noU);exact rfl;exact rfl;exact rfl)
  by_cases hl : xs.length = ys.length
  · refine wc_no rfl (by simp [hl]) ?_
    repeat first|(with_reducible first|apply wc_seq|apply wc_region|apply wl_nil|apply qk_thn|apply wc_block|apply wc_skip|apply wc_ret|apply wc_exit|apply qk_thn_ret|apply qk_in_ret|apply qk_in|apply qk_thn_exit|apply qk_in_exit|apply qk_round_ret|apply qk_round_exit)|((with_reducible apply ws);exact rfl;exact rfl)|((with_reducible apply wl_yes);exact rfl;exact rfl;exact rfl)|((with_reducible apply wl_no);exact rfl;exact rfl;exact rfl;exact rfl)|((with_reducible apply wl_noU);exact rfl;exact rfl;exact rfl)
    refine wc_loop (α := Nat) (fun i => [(13, .int .i64 (i : Int)), (12, .int .i64 (xs.length : Int)), (0, .slice aa xs.length ca), (1, .slice ab ys.length cb)]) (fun i w' => i ≤ xs.length ∧ xs.take i = ys.take i ∧ Below w.heap.size w w') (fun i => xs.length - i) 0 ⟨rfl, rfl, rfl, rfl, trivial⟩ ⟨by omega, rfl, Below.refl _ _⟩ ?_
    rintro i w1 ⟨hi, ht, hw⟩
    repeat first|(with_reducible first|apply wc_seq|apply wc_region|apply wl_nil|apply qk_thn|apply wc_block|apply wc_skip|apply wc_ret|apply wc_exit|apply qk_thn_ret|apply qk_in_ret|apply qk_in|apply qk_thn_exit|apply qk_in_exit|apply qk_round_ret|apply qk_round_exit)|((with_reducible apply ws);exact rfl;exact rfl)|((with_reducible apply wl_yes);exact rfl;exact rfl;exact rfl)|((with_reducible apply wl_no);exact rfl;exact rfl;exact rfl;exact rfl)|((with_reducible apply wl_noU);exact rfl;exact rfl;exact rfl)
    by_cases hlt : i < xs.length
    · refine wc_yes rfl (by simpa using hlt) ?_
      repeat first|(with_reducible first|apply wc_seq|apply wc_region|apply wl_nil|apply qk_thn|apply wc_block|apply wc_skip|apply wc_ret|apply wc_exit|apply qk_thn_ret|apply qk_in_ret|apply qk_in|apply qk_thn_exit|apply qk_in_exit|apply qk_round_ret|apply qk_round_exit)|((with_reducible apply ws);exact rfl;exact rfl)|((with_reducible apply wl_yes);exact rfl;exact rfl;exact rfl)|((with_reducible apply wl_no);exact rfl;exact rfl;exact rfl;exact rfl)|((with_reducible apply wl_noU);exact rfl;exact rfl;exact rfl)
      obtain ⟨b1, o1, c1, hv1, hc1⟩ := (ha.below hw).get hlt
      obtain ⟨b2, o2, c2, hv2, hc2⟩ := (hb.below hw).get (i := i) (by omega)
      simp only [Value.slice.injEq] at hv1 hv2
      obtain ⟨rfl, _, rfl⟩ := hv1
      obtain ⟨rfl, _, rfl⟩ := hv2
      refine wc_par [(0, .slice (some ⟨b1, o1, none⟩) xs.length ca), (1, .int .i64 (i : Int)), (2, .pointer (some ⟨b1, o1 + i * 1, none⟩)), (3, .int .u8 (xs[i].toNat : Int)), (4, .slice (some ⟨b2, o2, none⟩) ys.length cb), (5, .int .i64 (i : Int)), (6, .pointer (some ⟨b2, o2 + i * 1, none⟩)), (7, .int .u8 (ys[i].toNat : Int)), (8, .bool ((xs[i].toNat : Int) != (ys[i].toNat : Int)))] []
        (fun _ w' => Below w.heap.size w w' ∧ w'.cell? ⟨b1, o1 + i * 1, none⟩ = some (.int .u8 (xs[i].toNat : Int)) ∧ w'.cell? ⟨b2, o2 + i * 1, none⟩ = some (.int .u8 (ys[i].toNat : Int)))
        mixed rfl rfl rfl rfl rfl (by show ([0,1,2,3,4,5,6,7,8] : List Nat).Nodup; decide) rfl rfl (by decide) rfl rfl rfl rfl ⟨hw.drew, hc1, hc2⟩ ?_ trivial ?_
      · intro p hp vals w' hC a k
        simp only [List.mem_cons, List.not_mem_nil, or_false] at hp
        rcases hp with rfl | rfl | rfl | rfl | rfl | rfl | rfl | rfl | rfl
        · exact gv rfl rfl (rn_move k rfl)
        · exact gv rfl rfl (rn_move k rfl)
        · exact gv rfl rfl (rn_indexAddr k rfl rfl es_bytes hlt)
        · exact gv rfl rfl (rn_load k rfl to_u8 hC.2.1)
        · exact gv rfl rfl (rn_move k rfl)
        · exact gv rfl rfl (rn_move k rfl)
        · exact gv rfl rfl (rn_indexAddr k rfl rfl es_bytes (by omega))
        · exact gv rfl rfl (rn_load k rfl to_u8 hC.2.2)
        · exact gv rfl rfl (rn_neq k rfl rfl)
      · rintro vals w' hvl ⟨hw', _, _⟩
        refine qk_thn ?_
        by_cases hne : xs[i] = ys[i]
        · refine wc_no rfl (by rw [hne]; simp) ?_
          repeat first|(with_reducible first|apply wc_seq|apply wc_region|apply wl_nil|apply qk_thn|apply wc_block|apply wc_skip|apply wc_ret|apply wc_exit|apply qk_thn_ret|apply qk_in_ret|apply qk_in|apply qk_thn_exit|apply qk_in_exit|apply qk_round_ret|apply qk_round_exit)|((with_reducible apply ws);exact rfl;exact rfl)|((with_reducible apply wl_yes);exact rfl;exact rfl;exact rfl)|((with_reducible apply wl_no);exact rfl;exact rfl;exact rfl;exact rfl)|((with_reducible apply wl_noU);exact rfl;exact rfl;exact rfl)
          refine wl_add rfl rfl rfl (r := ((i + 1 : Nat) : Int)) (by rw [IntKind.wrap_i64]; omega) ?_
          repeat first|(with_reducible first|apply wc_seq|apply wc_region|apply wl_nil|apply qk_thn|apply wc_block|apply wc_skip|apply wc_ret|apply wc_exit|apply qk_thn_ret|apply qk_in_ret|apply qk_in|apply qk_thn_exit|apply qk_in_exit|apply qk_round_ret|apply qk_round_exit)|((with_reducible apply ws);exact rfl;exact rfl)|((with_reducible apply wl_yes);exact rfl;exact rfl;exact rfl)|((with_reducible apply wl_no);exact rfl;exact rfl;exact rfl;exact rfl)|((with_reducible apply wl_noU);exact rfl;exact rfl;exact rfl)
          refine qk_round (i + 1) ⟨rfl, rfl, rfl, rfl, trivial⟩ ⟨by omega, ?_, hw'⟩ (by omega)
          rw [List.take_succ_eq_append_getElem hlt, List.take_succ_eq_append_getElem (by omega), ht, hne]
        · refine wc_yes rfl (by rw [u8_ne]; simpa using hne) ?_
          repeat first|(with_reducible first|apply wc_seq|apply wc_region|apply wl_nil|apply qk_thn|apply wc_block|apply wc_skip|apply wc_ret|apply wc_exit|apply qk_thn_ret|apply qk_in_ret|apply qk_in|apply qk_thn_exit|apply qk_in_exit|apply qk_round_ret|apply qk_round_exit)|((with_reducible apply ws);exact rfl;exact rfl)|((with_reducible apply wl_yes);exact rfl;exact rfl;exact rfl)|((with_reducible apply wl_no);exact rfl;exact rfl;exact rfl;exact rfl)|((with_reducible apply wl_noU);exact rfl;exact rfl;exact rfl)
          exact qk_ret1 rfl rfl ⟨_, rfl, hw', by rw [take_ne hlt (by omega) hne]⟩
    · refine wc_no rfl (by simpa using hlt) ?_
      repeat first|(with_reducible first|apply wc_seq|apply wc_region|apply wl_nil|apply qk_thn|apply wc_block|apply wc_skip|apply wc_ret|apply wc_exit|apply qk_thn_ret|apply qk_in_ret|apply qk_in|apply qk_thn_exit|apply qk_in_exit|apply qk_round_ret|apply qk_round_exit)|((with_reducible apply ws);exact rfl;exact rfl)|((with_reducible apply wl_yes);exact rfl;exact rfl;exact rfl)|((with_reducible apply wl_no);exact rfl;exact rfl;exact rfl;exact rfl)|((with_reducible apply wl_noU);exact rfl;exact rfl;exact rfl)
      refine qk_ret1 rfl rfl ⟨_, rfl, hw, ?_⟩
      rw [List.take_of_length_le (by omega), List.take_of_length_le (by omega)] at ht
      simp [ht]
  · refine wc_yes rfl (by simp; omega) ?_
    repeat first|(with_reducible first|apply wc_seq|apply wc_region|apply wl_nil|apply qk_thn|apply wc_block|apply wc_skip|apply wc_ret|apply wc_exit|apply qk_thn_ret|apply qk_in_ret|apply qk_in|apply qk_thn_exit|apply qk_in_exit|apply qk_round_ret|apply qk_round_exit)|((with_reducible apply ws);exact rfl;exact rfl)|((with_reducible apply wl_yes);exact rfl;exact rfl;exact rfl)|((with_reducible apply wl_no);exact rfl;exact rfl;exact rfl;exact rfl)|((with_reducible apply wl_noU);exact rfl;exact rfl;exact rfl)
    refine qk_ret1 rfl rfl ⟨_, rfl, Below.refl _ _, ?_⟩
    have : (xs == ys) = false := by rw [beq_eq_false_iff_ne]; rintro rfl; exact hl rfl
    rw [this]

theorem known_snoc (fs : List Fld) (f : Fld) : known (fs ++ [f]) = if 0 ≤ f.tag then max (known fs) (f.tag.toNat + 1) else known fs := by simp [known]
theorem known_le {fs : List Fld} (h : ∀ f ∈ fs, f.tag < 2147483647) : known fs < 2147483648 := by
  have : ∀ (fs : List Fld) (m : Nat), m < 2147483648 → (∀ f ∈ fs, f.tag < 2147483647) → fs.foldl (fun n f => if 0 ≤ f.tag then max n (f.tag.toNat + 1) else n) m < 2147483648 := by
    intro fs
    induction fs with
    | nil => intro m hm _; simpa using hm
    | cons f fs ih =>
      intro m hm h
      simp only [List.foldl_cons]
      refine ih _ ?_ (fun g hg => h g (by simp [hg]))
      have := h f (by simp)
      split <;> omega
  exact this fs 0 (by omega) h
theorem fn_known (v : Value) (fs : List Fld) (B : Nat) (w : World) (hB : B ≤ w.heap.size) (h : Sq B w v (fs.map fldD)) (ht : ∀ f ∈ fs, f.tag < 2147483647) (hl : fs.length ≤ 1000000) :
    Fn 25 [v] w fun r _ => r = .int .u32 (known fs : Nat) := by
  obtain ⟨a, c, rfl, _⟩ := h.shape
  simp only [List.length_map] at *
  refine enter Tryd.func25 rfl Tryd.ntmps25 rfl ?_
  repeat first|(with_reducible first|apply wc_seq|apply wc_region|apply wl_nil|apply qk_thn|apply wc_block|apply wc_skip|apply wc_ret|apply wc_exit|apply qk_thn_ret|apply qk_in_ret|apply qk_in|apply qk_thn_exit|apply qk_in_exit|apply qk_round_ret|apply qk_round_exit)|((with_reducible apply ws);exact rfl;exact rfl)|((with_reducible apply wl_yes);exact rfl;exact rfl;exact rfl)|((with_reducible apply wl_no);exact rfl;exact rfl;exact rfl;exact rfl)|((with_reducible apply wl_noU);exact rfl;exact rfl;exact rfl)
  refine wc_loop (α := Nat) (fun i => [(8, .int .i64 (i : Int)), (7, .int .i64 (fs.length : Int)), (6, .slice a fs.length c), (3, .int .u32 (known (fs.take i) : Nat))]) (fun i w' => i ≤ fs.length ∧ Below w.heap.size w w') (fun i => fs.length - i) 0 ⟨rfl, rfl, rfl, rfl, trivial⟩ ⟨by omega, Below.refl _ _⟩ ?_
  rintro i w1 ⟨hi, hw⟩
  repeat first|(with_reducible first|apply wc_seq|apply wc_region|apply wl_nil|apply qk_thn|apply wc_block|apply wc_skip|apply wc_ret|apply wc_exit|apply qk_thn_ret|apply qk_in_ret|apply qk_in|apply qk_thn_exit|apply qk_in_exit|apply qk_round_ret|apply qk_round_exit)|((with_reducible apply ws);exact rfl;exact rfl)|((with_reducible apply wl_yes);exact rfl;exact rfl;exact rfl)|((with_reducible apply wl_no);exact rfl;exact rfl;exact rfl;exact rfl)|((with_reducible apply wl_noU);exact rfl;exact rfl;exact rfl)
  by_cases hlt : i < fs.length
  · refine wc_yes rfl (by simpa using hlt) ?_
    obtain ⟨b, off, c', cs, hv, _, hcs, hlen, hr⟩ := (h.below (hw.mono hB) (Nat.le_refl _)).get (sz := 8) (i := i) (by intro d hd; obtain ⟨x, _, rfl⟩ := List.mem_map.1 hd; exact fldD_width x) (by simpa using hlt)
    simp only [Value.slice.injEq, List.length_map] at hv
    obtain ⟨rfl, _, rfl⟩ := hv
    simp only [List.getElem_map] at hr
    obtain ⟨hone, _⟩ := fld_one hr
    have hti := ht fs[i] (by simp)
    have hkl := known_le (fs := fs.take i) (fun f hf => ht f (List.mem_of_mem_take hf))
    have hsn := known_snoc (fs.take i) fs[i]
    rw [← List.take_succ_eq_append_getElem hlt] at hsn
    obtain ⟨sv, hce, _⟩ := fld_cells hr
    subst hce
    repeat first|(with_reducible first|apply wc_seq|apply wc_region|apply wl_nil|apply qk_thn|apply wc_block|apply wc_skip|apply wc_ret|apply wc_exit|apply qk_thn_ret|apply qk_in_ret|apply qk_in|apply qk_thn_exit|apply qk_in_exit|apply qk_round_ret|apply qk_round_exit)|((with_reducible apply ws);exact rfl;exact rfl)|((with_reducible apply wl_yes);exact rfl;exact rfl;exact rfl)|((with_reducible apply wl_no);exact rfl;exact rfl;exact rfl;exact rfl)|((with_reducible apply wl_noU);exact rfl;exact rfl;exact rfl)
    refine wl_indexAddr rfl rfl es_flds rfl hlt ?_
    refine wl_loadAgg (cs := [.int .i64 fs[i].kind, .int .i64 fs[i].fr, .int .i64 fs[i].upto, .int .i64 fs[i].nul, .int .i64 fs[i].tag, .int .i64 fs[i].df, .int .i64 fs[i].of, sv]) rfl ta_fld rfl (fun j v e => hcs.cell e) ?_
    refine wl_alloc zv_fld rfl rfl (fun w2 hb2 hg2 hs2 => ?_)
    refine wl_storeBAgg rfl rfl rfl tz_fld hone hb2 rfl (fun w3 hb3 hg3 hs3 => ?_)
    have hs1 := hw.size
    have hw3 : Below w.heap.size w w3 := (hw.trans (below_of hg2 hs1 (by simp))).trans (below_of hg3 (by omega) (by intro k hk; simp at hk; omega))
    repeat first|(with_reducible first|apply wc_seq|apply wc_region|apply wl_nil|apply qk_thn|apply wc_block|apply wc_skip|apply wc_ret|apply wc_exit|apply qk_thn_ret|apply qk_in_ret|apply qk_in|apply qk_thn_exit|apply qk_in_exit|apply qk_round_ret|apply qk_round_exit)|((with_reducible apply ws);exact rfl;exact rfl)|((with_reducible apply wl_yes);exact rfl;exact rfl;exact rfl)|((with_reducible apply wl_no);exact rfl;exact rfl;exact rfl;exact rfl)|((with_reducible apply wl_noU);exact rfl;exact rfl;exact rfl)
    refine wl_loadB rfl to_int rfl hb3 rfl ?_
    repeat first|(with_reducible first|apply wc_seq|apply wc_region|apply wl_nil|apply qk_thn|apply wc_block|apply wc_skip|apply wc_ret|apply wc_exit|apply qk_thn_ret|apply qk_in_ret|apply qk_in|apply qk_thn_exit|apply qk_in_exit|apply qk_round_ret|apply qk_round_exit)|((with_reducible apply ws);exact rfl;exact rfl)|((with_reducible apply wl_yes);exact rfl;exact rfl;exact rfl)|((with_reducible apply wl_no);exact rfl;exact rfl;exact rfl;exact rfl)|((with_reducible apply wl_noU);exact rfl;exact rfl;exact rfl)
    by_cases htag : 0 ≤ fs[i].tag
    · refine wc_yes rfl (by simpa using htag) ?_
      rw [if_pos htag] at hsn
      repeat first|(with_reducible first|apply wc_seq|apply wc_region|apply wl_nil|apply qk_thn|apply wc_block|apply wc_skip|apply wc_ret|apply wc_exit|apply qk_thn_ret|apply qk_in_ret|apply qk_in|apply qk_thn_exit|apply qk_in_exit|apply qk_round_ret|apply qk_round_exit)|((with_reducible apply ws);exact rfl;exact rfl)|((with_reducible apply wl_yes);exact rfl;exact rfl;exact rfl)|((with_reducible apply wl_no);exact rfl;exact rfl;exact rfl;exact rfl)|((with_reducible apply wl_noU);exact rfl;exact rfl;exact rfl)
      refine wl_loadB rfl to_int rfl hb3 rfl ?_
      refine wl_conv .u32 rfl ti_i64 ti_u32 rfl (r := fs[i].tag) (by rw [IntKind.wrap_u32]; omega) ?_
      refine wl_add rfl rfl rfl (r := fs[i].tag + 1) (by rw [IntKind.wrap_u32]; omega) ?_
      refine wl_max rfl rfl rfl (r := ((known (fs.take (i + 1)) : Nat) : Int)) (by rw [hsn]; split <;> omega) ?_
      repeat first|(with_reducible first|apply wc_seq|apply wc_region|apply wl_nil|apply qk_thn|apply wc_block|apply wc_skip|apply wc_ret|apply wc_exit|apply qk_thn_ret|apply qk_in_ret|apply qk_in|apply qk_thn_exit|apply qk_in_exit|apply qk_round_ret|apply qk_round_exit)|((with_reducible apply ws);exact rfl;exact rfl)|((with_reducible apply wl_yes);exact rfl;exact rfl;exact rfl)|((with_reducible apply wl_no);exact rfl;exact rfl;exact rfl;exact rfl)|((with_reducible apply wl_noU);exact rfl;exact rfl;exact rfl)
      refine wl_add rfl rfl rfl (r := ((i + 1 : Nat) : Int)) (by rw [IntKind.wrap_i64]; omega) ?_
      repeat first|(with_reducible first|apply wc_seq|apply wc_region|apply wl_nil|apply qk_thn|apply wc_block|apply wc_skip|apply wc_ret|apply wc_exit|apply qk_thn_ret|apply qk_in_ret|apply qk_in|apply qk_thn_exit|apply qk_in_exit|apply qk_round_ret|apply qk_round_exit)|((with_reducible apply ws);exact rfl;exact rfl)|((with_reducible apply wl_yes);exact rfl;exact rfl;exact rfl)|((with_reducible apply wl_no);exact rfl;exact rfl;exact rfl;exact rfl)|((with_reducible apply wl_noU);exact rfl;exact rfl;exact rfl)
      exact qk_round (i + 1) ⟨rfl, rfl, rfl, rfl, trivial⟩ ⟨by omega, hw3⟩ (by omega)
    · refine wc_no rfl (by simpa using htag) ?_
      rw [if_neg htag] at hsn
      repeat first|(with_reducible first|apply wc_seq|apply wc_region|apply wl_nil|apply qk_thn|apply wc_block|apply wc_skip|apply wc_ret|apply wc_exit|apply qk_thn_ret|apply qk_in_ret|apply qk_in|apply qk_thn_exit|apply qk_in_exit|apply qk_round_ret|apply qk_round_exit)|((with_reducible apply ws);exact rfl;exact rfl)|((with_reducible apply wl_yes);exact rfl;exact rfl;exact rfl)|((with_reducible apply wl_no);exact rfl;exact rfl;exact rfl;exact rfl)|((with_reducible apply wl_noU);exact rfl;exact rfl;exact rfl)
      refine wl_add rfl rfl rfl (r := ((i + 1 : Nat) : Int)) (by rw [IntKind.wrap_i64]; omega) ?_
      repeat first|(with_reducible first|apply wc_seq|apply wc_region|apply wl_nil|apply qk_thn|apply wc_block|apply wc_skip|apply wc_ret|apply wc_exit|apply qk_thn_ret|apply qk_in_ret|apply qk_in|apply qk_thn_exit|apply qk_in_exit|apply qk_round_ret|apply qk_round_exit)|((with_reducible apply ws);exact rfl;exact rfl)|((with_reducible apply wl_yes);exact rfl;exact rfl;exact rfl)|((with_reducible apply wl_no);exact rfl;exact rfl;exact rfl;exact rfl)|((with_reducible apply wl_noU);exact rfl;exact rfl;exact rfl)
      exact qk_round (i + 1) ⟨rfl, rfl, rfl, by rw [hsn]; rfl, trivial⟩ ⟨by omega, hw3⟩ (by omega)
  · refine wc_no rfl (by simpa using hlt) ?_
    repeat first|(with_reducible first|apply wc_seq|apply wc_region|apply wl_nil|apply qk_thn|apply wc_block|apply wc_skip|apply wc_ret|apply wc_exit|apply qk_thn_ret|apply qk_in_ret|apply qk_in|apply qk_thn_exit|apply qk_in_exit|apply qk_round_ret|apply qk_round_exit)|((with_reducible apply ws);exact rfl;exact rfl)|((with_reducible apply wl_yes);exact rfl;exact rfl;exact rfl)|((with_reducible apply wl_no);exact rfl;exact rfl;exact rfl;exact rfl)|((with_reducible apply wl_noU);exact rfl;exact rfl;exact rfl)
    refine qk_ret1 rfl rfl ⟨_, rfl, hw, ?_⟩
    rw [List.take_of_length_le (by omega)]
end
end Go.Proofs.YtgblofcjkgbojaaDoor

/- The reference's unknown tags, and the bounds that the statements ask: what each comes to. -/
namespace Go.Proofs.YtgblofcjkgbojaaDoor
open Go Go.RowKit

section
variable {P : Program} {N : Nat} {L : Sl} {a : Act} {w : World}
/-- What stands behind something that is not run is not run. -/
theorem gv_noU {ops : List Oper} {i j t : Nat} {o : Oper} {want : Bool} (ho : ops[i]? = some o) (hg : o.guard = some (j, want)) (hj : dstOf ops j = some t) (k : Kn N a L) (hb : lk L t = some undef) : Gives P ops i undef a w := by
  unfold Gives
  rw [ho]
  have h1 := k.at_ t _ hb
  have hy : yielded ops.toArray a.tmps j = none := by
    have hj' : (ops[j]?).bind (·.dst) = some t := hj
    simp only [yielded, List.getElem?_toArray, hj', Option.bind_some]
    simp only [gt, Array.getD_eq_getD_getElem?] at h1
    cases ht : a.tmps[t]? with
    | none => rfl
    | some v => rw [ht] at h1; simp at h1; subst h1; rfl
  exact .inr ⟨by simp [Region.wanted, hg, hy], rfl⟩
end

/-- A tag as the walk holds it: what it says, and the slice that holds its octets. -/
abbrev Tg : Type := (Nat × List UInt8) × Value
def tcells (qs : List Tg) : List Value := qs.flatMap fun q => [.int .u32 q.1.1, q.2]
theorem tcells_append (a b : List Tg) : tcells (a ++ b) = tcells a ++ tcells b := by simp [tcells]
theorem tcells_cons (q : Tg) (b : List Tg) : tcells (q :: b) = [.int .u32 q.1.1, q.2] ++ tcells b := by simp [tcells]
theorem tcells_length (a : List Tg) : (tcells a).length = a.length * 2 := by
  induction a with
  | nil => rfl
  | cons q a ih => rw [tcells_cons]; simp only [List.length_append, ih, List.length_cons, List.length_nil]; omega
theorem tcells_split (qs : List Tg) {j : Nat} (hj : j < qs.length) : tcells qs = tcells (qs.take j) ++ ([.int .u32 qs[j].1.1, qs[j].2] ++ tcells (qs.drop (j + 1))) := by
  rw [← tcells_cons, ← tcells_append, List.getElem_cons_drop, List.take_append_drop]
theorem tcells_at {w : World} {g : Nat} {qs : List Tg} (h : CellsAt w g 0 (tcells qs)) {j : Nat} (hj : j < qs.length) : CellsAt w g (0 + j * 2) [.int .u32 qs[j].1.1, qs[j].2] := by
  rw [tcells_split qs hj] at h
  have := h.part
  rwa [tcells_length, List.length_take, Nat.min_eq_left (by omega)] at this
theorem tcells_set (qs : List Tg) {j : Nat} (hj : j < qs.length) (q : Tg) : (tcells qs).take (j * 2) ++ [.int .u32 q.1.1, q.2] ++ (tcells qs).drop (j * 2 + 2) = tcells (qs.set j q) := by
  have e1 : (tcells (qs.take j)).length = j * 2 := by rw [tcells_length, List.length_take, Nat.min_eq_left (by omega)]
  rw [tcells_split qs hj, List.set_eq_take_append_cons_drop, if_pos hj, tcells_append, tcells_cons]
  rw [List.take_append_of_le_length (by omega), List.take_of_length_le (by omega), ← List.append_assoc, List.drop_append_of_le_length (by simp [e1])]
  rw [List.drop_of_length_le (by simp [e1])]
  simp
theorem tcells_reps {B : Nat} {w : World} : ∀ (qs : List Tg), (∀ q ∈ qs, Sq B w q.2 (q.1.2.map byteD)) → Reps (Lo B) w (qs.map fun q => tagD q.1) (tcells qs)
  | [], _ => by simp [tcells, Reps]
  | q :: qs, h => by
    rw [tcells_cons, List.map_cons]
    simp only [Reps]
    refine ⟨_, _, rfl, ?_, tcells_reps qs (fun x hx => h x (by simp [hx]))⟩
    have h1 := h q (by simp)
    simp only [Sq] at h1
    simp only [tagD, Rep, Reps, bytesD]
    refine ⟨[_], [q.2], rfl, rfl, [q.2], [], rfl, ?_, rfl⟩
    simpa [Rep] using h1

/-- Where a tag is put. -/
theorem putTag_at (k : Nat) (v : List UInt8) : ∀ (l : List (Nat × List UInt8)) (j : Nat) (_ : j ≤ l.length), (∀ q (h : q < l.length), q < j → l[q].1 < k) → (∀ h : j < l.length, ¬ l[j].1 < k) →
    putTag k v l = if (∃ h : j < l.length, l[j].1 = k) then l else l.take j ++ (k, v) :: l.drop j
  | [], j, hj, _, _ => by
    have : j = 0 := by simpa using hj
    subst this; simp [putTag]
  | kv :: r, 0, _, _, h2 => by
    have := h2 (by simp)
    simp only [List.getElem_cons_zero] at this
    simp only [putTag, if_neg this, List.length_cons, List.getElem_cons_zero, List.take_zero, List.drop_zero, List.nil_append]
    by_cases he : kv.1 = k <;> simp [he]
  | kv :: r, j + 1, hj, h1, h2 => by
    have h0 := h1 0 (by simp) (by omega)
    simp only [List.getElem_cons_zero] at h0
    have ih := putTag_at k v r j (by simpa using hj) (fun q h hq => h1 (q + 1) (Nat.succ_lt_succ h) (Nat.succ_lt_succ hq)) (fun h => h2 (Nat.succ_lt_succ h))
    simp only [putTag, if_pos h0, ih, List.length_cons, List.getElem_cons_succ, Nat.add_lt_add_iff_right, List.take_succ_cons, List.drop_succ_cons]
    split <;> simp
def step (least : Nat) (out : List (Nat × List UInt8)) (kv : Nat × List UInt8) : List (Nat × List UInt8) := if kv.1 < least then out else putTag kv.1 kv.2 out
theorem putTag_length (k : Nat) (v : List UInt8) (l : List (Nat × List UInt8)) : (putTag k v l).length ≤ l.length + 1 := by
  induction l with
  | nil => simp [putTag]
  | cons a l ih => simp only [putTag]; split; · simp; omega
                   · split <;> simp
theorem step_fold_snoc (least : Nat) (u : List (Nat × List UInt8)) {i : Nat} (hi : i < u.length) : (u.take (i + 1)).foldl (step least) [] = step least ((u.take i).foldl (step least) []) u[i] := by
  rw [List.take_succ_eq_append_getElem hi, List.foldl_append]; rfl
theorem step_fold_length (least : Nat) : ∀ (u out : List (Nat × List UInt8)), (u.foldl (step least) out).length ≤ out.length + u.length
  | [], out => by simp
  | kv :: u, out => by
    have h1 := step_fold_length least u (step least out kv)
    have h2 : (step least out kv).length ≤ out.length + 1 := by
      unfold step; split
      · omega
      · exact putTag_length _ _ _
    simp only [List.foldl_cons, List.length_cons]; omega

structure UkS where
  i : Nat
  d : Value
  qs : List Tg
structure UkI (B : Nat) (w : World) (N0 tt least : Nat) (u : List (Nat × List UInt8)) (x : UkS) (w' : World) : Prop where
  le : x.i ≤ min u.length Most
  below : Below w.heap.size w w'
  row : w'.ownsRow N0 tt 2 x.d x.qs.length (tcells x.qs)
  says : x.qs.map (·.1) = (u.take x.i).foldl (step least) []
  at_ : ∀ q ∈ x.qs, Sq B w q.2 (q.1.2.map byteD)
theorem tg_len {qs : List Tg} {l : List (Nat × List UInt8)} (h : qs.map (·.1) = l) : l.length = qs.length := by rw [← h]; simp
theorem tg_get {qs : List Tg} {l : List (Nat × List UInt8)} (h : qs.map (·.1) = l) {j : Nat} (hj : j < qs.length) (hl : j < l.length) : l[j] = qs[j].1 := by subst h; simp
theorem shift_end (qs : List Tg) (x q : Tg) {j : Nat} (hj : j ≤ qs.length) : (qs.take j ++ x :: qs.drop j).set j q = qs.take j ++ q :: qs.drop j := by
  rw [List.set_append_right _ _ (by simp; omega)]
  have : j - (qs.take j).length = 0 := by simp; omega
  rw [this]; rfl
theorem shift_step (qs : List Tg) (x : Tg) {k : Nat} (hk : k + 1 ≤ qs.length) : (qs.take (k + 1) ++ x :: qs.drop (k + 1)).set (k + 1) qs[k] = qs.take k ++ qs[k] :: qs.drop k := by
  rw [shift_end qs x _ hk, List.take_succ_eq_append_getElem (by omega), List.append_assoc]
  congr 1
  simp only [List.singleton_append]
  rw [List.getElem_cons_drop]

theorem Row.kept {w w' : World} {B e sz : Nat} {d : Value} {n : Nat} {xs : List Value} {row : Option Nat} (h : w.ownsRow B e sz d n xs) (hg : w.grownBy w' row) (hne : ∀ g, d.ownBlock = some g → row ≠ some g) : w'.ownsRow B e sz d n xs := by
  refine World.ownsRow.kept h hg ?_
  cases hd : d.ownBlock with
  | none => exact .inl rfl
  | some g => exact .inr (fun e => hne g hd e.symm)

section
set_option maxRecDepth 100000
theorem fn_unknownR (fv uv : Value) (fs : List Fld) (u : List (Nat × List UInt8)) (B : Nat) (w : World) (hB : B ≤ w.heap.size) (hf : Sq B w fv (fs.map fldD)) (hu : Sq B w uv (u.map tagD)) (ht : ∀ f ∈ fs, f.tag < 2147483647) (hl : fs.length ≤ 1000000) :
    Fn 28 [fv, uv] w fun r w' => ∃ qs : List Tg, w'.ownsRow w.heap.size 55 2 r qs.length (tcells qs) ∧ qs.map (·.1) = unknown fs u ∧ ∀ q ∈ qs, Sq B w q.2 (q.1.2.map byteD) := by
  obtain ⟨au, cu, rfl, hcu⟩ := hu.shape
  simp only [List.length_map] at *
  have hkn := known_le ht
  refine enter Tryd.func28 rfl Tryd.ntmps28 rfl ?_
  repeat first|(with_reducible first|apply wc_seq|apply wc_region|apply wl_nil|apply qk_thn|apply wc_block|apply wc_skip|apply wc_ret|apply wc_exit|apply qk_thn_ret|apply qk_in_ret|apply qk_in|apply qk_thn_exit|apply qk_in_exit|apply qk_round_ret|apply qk_round_exit)|((with_reducible apply ws);exact rfl;exact rfl)|((with_reducible apply wl_yes);exact rfl;exact rfl;exact rfl)|((with_reducible apply wl_no);exact rfl;exact rfl;exact rfl;exact rfl)|((with_reducible apply wl_noU);exact rfl;exact rfl;exact rfl)
  refine wl_call rfl (by kernel_rfl) rfl ((fn_known fv fs B w hB hf ht hl).mono ?_)
  rintro e w0 ⟨v, rfl, hw0, rfl⟩
  refine ⟨_, rfl, ?_⟩
  repeat first|(with_reducible first|apply wc_seq|apply wc_region|apply wl_nil|apply qk_thn|apply wc_block|apply wc_skip|apply wc_ret|apply wc_exit|apply qk_thn_ret|apply qk_in_ret|apply qk_in|apply qk_thn_exit|apply qk_in_exit|apply qk_round_ret|apply qk_round_exit)|((with_reducible apply ws);exact rfl;exact rfl)|((with_reducible apply wl_yes);exact rfl;exact rfl;exact rfl)|((with_reducible apply wl_no);exact rfl;exact rfl;exact rfl;exact rfl)|((with_reducible apply wl_noU);exact rfl;exact rfl;exact rfl)
  refine wl_min rfl rfl rfl (min_if u.length) ?_
  refine wl_sliceHi rfl rfl el_tags rfl (by omega) ?_
  repeat first|(with_reducible first|apply wc_seq|apply wc_region|apply wl_nil|apply qk_thn|apply wc_block|apply wc_skip|apply wc_ret|apply wc_exit|apply qk_thn_ret|apply qk_in_ret|apply qk_in|apply qk_thn_exit|apply qk_in_exit|apply qk_round_ret|apply qk_round_exit)|((with_reducible apply ws);exact rfl;exact rfl)|((with_reducible apply wl_yes);exact rfl;exact rfl;exact rfl)|((with_reducible apply wl_no);exact rfl;exact rfl;exact rfl;exact rfl)|((with_reducible apply wl_noU);exact rfl;exact rfl;exact rfl)
  refine wc_loop (α := UkS) (fun x => [(19, .int .i64 (x.i : Int)), (18, .int .i64 ((min u.length Most : Nat) : Int)), (17, .slice au (min u.length Most) cu), (6, x.d), (5, .int .u32 (known fs : Nat))]) (UkI B w w.heap.size 55 (known fs) u) (fun x => min u.length Most - x.i) ⟨0, .slice none 0 0, []⟩ ⟨rfl, rfl, rfl, rfl, rfl, trivial⟩ ⟨Nat.zero_le _, hw0, World.ownsRow_nil _ _ _ _, rfl, by simp⟩ ?_
  rintro ⟨i, d, qs⟩ w1 ⟨hi, hw1, hrow, hsay, hat⟩
  simp only [] at hi hrow hsay hat
  change WC _ _ _ _ [(19, .int .i64 (i : Int)), (18, .int .i64 ((min u.length Most : Nat) : Int)), (17, .slice au (min u.length Most) cu), (6, d), (5, .int .u32 (known fs : Nat))] _
  have hqn : qs.length ≤ 32767 := by
    rw [← tg_len hsay]
    have := step_fold_length (known fs) (u.take i) []
    simp only [List.length_nil, List.length_take, Nat.zero_add] at this
    simp only [Most] at hi; omega
  repeat first|(with_reducible first|apply wc_seq|apply wc_region|apply wl_nil|apply qk_thn|apply wc_block|apply wc_skip|apply wc_ret|apply wc_exit|apply qk_thn_ret|apply qk_in_ret|apply qk_in|apply qk_thn_exit|apply qk_in_exit|apply qk_round_ret|apply qk_round_exit)|((with_reducible apply ws);exact rfl;exact rfl)|((with_reducible apply wl_yes);exact rfl;exact rfl;exact rfl)|((with_reducible apply wl_no);exact rfl;exact rfl;exact rfl;exact rfl)|((with_reducible apply wl_noU);exact rfl;exact rfl;exact rfl)
  by_cases hlt : i < min u.length Most
  · refine wc_yes rfl (by simpa using hlt) ?_
    have hi32 : i < 32767 := Nat.lt_of_lt_of_le hlt (Nat.min_le_right u.length Most)
    have hiu : i < u.length := by omega
    have hsn := step_fold_snoc (known fs) u hiu
    obtain ⟨b, off, c', cs, hv, _, hcs, hlen, hr⟩ := (hu.below (hw1.mono hB) (Nat.le_refl _)).get (sz := 2) (i := i) (by intro d hd; obtain ⟨x, _, rfl⟩ := List.mem_map.1 hd; exact tagD_width x) (by simpa using hiu)
    simp only [Value.slice.injEq, List.length_map] at hv
    obtain ⟨rfl, _, rfl⟩ := hv
    simp only [List.getElem_map] at hr
    obtain ⟨hone, _⟩ := tag_one hr
    obtain ⟨sv, hce, hsv1⟩ := tag_cells hr
    subst hce
    have hsv : Sq B w sv (u[i].2.map byteD) := by
      obtain ⟨b2, off2, c2, cs2, hv2, _, hcs2, hlen2, hr2⟩ := hu.get (sz := 2) (i := i) (by intro d hd; obtain ⟨x, _, rfl⟩ := List.mem_map.1 hd; exact tagD_width x) (by simpa using hiu)
      simp only [Value.slice.injEq, Option.some.injEq, Addr.mk.injEq, and_true] at hv2
      obtain ⟨⟨rfl, rfl⟩, _, _⟩ := hv2
      simp only [List.getElem_map] at hr2
      obtain ⟨sv2, hce2, hsv2⟩ := tag_cells hr2
      subst hce2
      have hb1 := hw1.mono hB
      have e1 := hcs.cell (i := 1) (v := sv) rfl
      have e2 := (hcs2.of_block (hb1.block b (by assumption))).cell (i := 1) (v := sv2) rfl
      rw [e1] at e2; cases e2
      exact hsv2
    repeat first|(with_reducible first|apply wc_seq|apply wc_region|apply wl_nil|apply qk_thn|apply wc_block|apply wc_skip|apply wc_ret|apply wc_exit|apply qk_thn_ret|apply qk_in_ret|apply qk_in|apply qk_thn_exit|apply qk_in_exit|apply qk_round_ret|apply qk_round_exit)|((with_reducible apply ws);exact rfl;exact rfl)|((with_reducible apply wl_yes);exact rfl;exact rfl;exact rfl)|((with_reducible apply wl_no);exact rfl;exact rfl;exact rfl;exact rfl)|((with_reducible apply wl_noU);exact rfl;exact rfl;exact rfl)
    refine wl_indexAddr rfl rfl es_tags rfl hlt ?_
    refine wl_loadAgg (cs := [.int .u32 u[i].1, sv]) rfl ta_tag rfl (fun j v e => hcs.cell e) ?_
    refine wl_alloc zv_tag rfl rfl (fun w2 hb2 hg2 hs2 => ?_)
    refine wl_storeBAgg (vs := [.int .u32 u[i].1, sv]) rfl rfl rfl tz_tag hone hb2 rfl (fun w3 hb3 hg3 hs3 => ?_)
    have hs1 := hw1.size
    have hw3 : Below w.heap.size w w3 := (hw1.trans (below_of hg2 hs1 (by simp))).trans (below_of hg3 (by omega) (by intro k hk; simp at hk; omega))
    have hdlt : ∀ g, d.ownBlock = some g → w.heap.size ≤ g ∧ g < w1.heap.size := fun g hg => World.ownsRow.lt hrow g hg
    have hrow3 : w3.ownsRow w.heap.size 55 2 d qs.length (tcells qs) :=
      Row.kept (Row.kept hrow hg2 (fun g _ => by simp)) hg3 (fun g hg e => by have := hdlt g hg; simp at e; omega)
    refine wl_nil (qk_thn (wc_seq (wc_region ?_)))
    repeat first|((with_reducible apply ws);exact rfl;exact rfl)|((with_reducible apply wl_yes);exact rfl;exact rfl;exact rfl)|((with_reducible apply wl_no);exact rfl;exact rfl;exact rfl;exact rfl)|((with_reducible apply wl_noU);exact rfl;exact rfl;exact rfl)
    refine wl_nil (qk_thn ?_)
    refine wc_cut (α := Nat) (fun j => [(19, .int .i64 (i : Int)), (18, .int .i64 ((min u.length Most : Nat) : Int)), (17, .slice (some ⟨b, off, none⟩) (min u.length Most) cu), (9, .int .i64 (j : Int)), (8, .pointer (some ⟨w1.heap.size, 0, none⟩)), (6, d), (5, .int .u32 (known fs : Nat))])
      (fun j w' => j ≤ qs.length ∧ (∀ q (h : q < qs.length), q < j → qs[q].1.1 < u[i].1) ∧ (∀ h : j < qs.length, ¬ qs[j].1.1 < u[i].1) ∧ Below w.heap.size w w' ∧ w'.ownsRow w.heap.size 55 2 d qs.length (tcells qs) ∧ Box w' w1.heap.size [.int .u32 u[i].1, sv] 55) ?_ ?_
    · repeat first|(with_reducible first|apply wc_seq|apply wc_region|apply wl_nil|apply qk_thn|apply wc_block|apply wc_skip|apply wc_ret|apply wc_exit|apply qk_thn_ret|apply qk_in_ret|apply qk_in|apply qk_thn_exit|apply qk_in_exit|apply qk_round_ret|apply qk_round_exit)|((with_reducible apply ws);exact rfl;exact rfl)|((with_reducible apply wl_yes);exact rfl;exact rfl;exact rfl)|((with_reducible apply wl_no);exact rfl;exact rfl;exact rfl;exact rfl)|((with_reducible apply wl_noU);exact rfl;exact rfl;exact rfl)
      refine wc_loop (α := Nat) (fun j => [(19, .int .i64 (i : Int)), (18, .int .i64 ((min u.length Most : Nat) : Int)), (17, .slice (some ⟨b, off, none⟩) (min u.length Most) cu), (9, .int .i64 (j : Int)), (8, .pointer (some ⟨w1.heap.size, 0, none⟩)), (6, d), (5, .int .u32 (known fs : Nat))])
        (fun j w' => j ≤ qs.length ∧ (∀ q (h : q < qs.length), q < j → qs[q].1.1 < u[i].1) ∧ Below w.heap.size w w' ∧ w'.ownsRow w.heap.size 55 2 d qs.length (tcells qs) ∧ Box w' w1.heap.size [.int .u32 u[i].1, sv] 55) (fun j => qs.length - j) 0 ⟨rfl, rfl, rfl, rfl, rfl, rfl, rfl, trivial⟩ ⟨Nat.zero_le _, by omega, hw3, hrow3, hb3⟩ ?_
      rintro j w4 ⟨hj, hbef, hw4, hrow4, hb4⟩
      repeat first|(with_reducible first|apply wc_seq|apply wc_region|apply wl_nil|apply qk_thn|apply wc_block|apply wc_skip|apply wc_ret|apply wc_exit|apply qk_thn_ret|apply qk_in_ret|apply qk_in|apply qk_thn_exit|apply qk_in_exit|apply qk_round_ret|apply qk_round_exit)|((with_reducible apply ws);exact rfl;exact rfl)|((with_reducible apply wl_yes);exact rfl;exact rfl;exact rfl)|((with_reducible apply wl_no);exact rfl;exact rfl;exact rfl;exact rfl)|((with_reducible apply wl_noU);exact rfl;exact rfl;exact rfl)
      obtain ⟨ad, cd, hde⟩ := Row.shape hrow4
      subst hde
      by_cases hjl : j < qs.length
      · obtain ⟨g, cap, hde, hg1, hg2', hca⟩ := Row.cells hrow4 (by omega)
        simp only [Value.slice.injEq, true_and] at hde
        obtain ⟨rfl, rfl⟩ := hde
        have hcj := tcells_at hca hjl
        refine wc_par [(0, .int .i64 (j : Int)), (1, .slice (some ⟨g, 0, none⟩) qs.length cd), (2, .int .i64 (qs.length : Int)), (3, .bool (decide ((j : Int) < (qs.length : Int)))), (4, .bool (decide ((j : Int) < (qs.length : Int)))), (5, .slice (some ⟨g, 0, none⟩) qs.length cd), (6, .int .i64 (j : Int)), (7, .pointer (some ⟨g, 0 + j * 2, none⟩)), (8, .pointer (some ⟨g, 0 + j * 2 + 0, none⟩)), (9, .int .u32 (qs[j].1.1 : Nat)), (10, .pointer (some ⟨w1.heap.size, 0 + 0, none⟩)), (11, .int .u32 (u[i].1 : Nat)), (12, .bool (decide ((qs[j].1.1 : Int) < (u[i].1 : Int)))), (13, .bool (decide ((qs[j].1.1 : Int) < (u[i].1 : Int))))] []
          (fun _ w' => w' = w4.drew)
          mixed rfl rfl rfl rfl rfl (by show ([0,1,2,3,4,5,6,7,8,9,10,11,12,13] : List Nat).Nodup; decide) rfl rfl (by decide) rfl rfl rfl rfl rfl ?_ trivial ?_
        · intro p hp vals w' hC a k
          subst hC
          simp only [List.mem_cons, List.not_mem_nil, or_false] at hp
          have ht4 : decide ((j : Int) < (qs.length : Int)) = true := by simpa using hjl
          rcases hp with rfl | rfl | rfl | rfl | rfl | rfl | rfl | rfl | rfl | rfl | rfl | rfl | rfl | rfl
          · exact gv rfl rfl (rn_move k rfl)
          · exact gv rfl rfl (rn_move k rfl)
          · exact gv rfl rfl (rn_len k rfl el_tags)
          · exact gv rfl rfl (rn_lss k rfl rfl)
          · exact gv rfl rfl (rn_move k rfl)
          · exact gv_yes rfl rfl rfl k rfl (by rw [ht4]; rfl) (rn_move k rfl)
          · exact gv_yes rfl rfl rfl k rfl (by rw [ht4]; rfl) (rn_move k rfl)
          · exact gv_yes rfl rfl rfl k rfl (by rw [ht4]; rfl) (rn_indexAddr k rfl rfl es_tags hjl)
          · exact gv_yes rfl rfl rfl k rfl (by rw [ht4]; rfl) (rn_fieldAddr k rfl fo_tag0)
          · exact gv_yes rfl rfl rfl k rfl (by rw [ht4]; rfl) (rn_load k rfl to_u32 (hcj.cell (i := 0) rfl))
          · exact gv_yes rfl rfl rfl k rfl (by rw [ht4]; rfl) (rn_fieldAddr k rfl fo_tag0)
          · exact gv_yes rfl rfl rfl k rfl (by rw [ht4]; rfl) (rn_load k rfl to_u32 (hb4.cell0 (i := 0) rfl))
          · exact gv_yes rfl rfl rfl k rfl (by rw [ht4]; rfl) (rn_lss k rfl rfl)
          · exact gv rfl rfl (rn_pick k rfl (by rw [ht4]; rfl))
        · rintro vals w5 hvl rfl
          refine qk_thn ?_
          by_cases hle : qs[j].1.1 < u[i].1
          · refine wc_yes rfl (by simpa using hle) ?_
            repeat first|(with_reducible first|apply wc_seq|apply wc_region|apply wl_nil|apply qk_thn|apply wc_block|apply wc_skip|apply wc_ret|apply wc_exit|apply qk_thn_ret|apply qk_in_ret|apply qk_in|apply qk_thn_exit|apply qk_in_exit|apply qk_round_ret|apply qk_round_exit)|((with_reducible apply ws);exact rfl;exact rfl)|((with_reducible apply wl_yes);exact rfl;exact rfl;exact rfl)|((with_reducible apply wl_no);exact rfl;exact rfl;exact rfl;exact rfl)|((with_reducible apply wl_noU);exact rfl;exact rfl;exact rfl)
            refine wl_add rfl rfl rfl (r := ((j + 1 : Nat) : Int)) (by rw [IntKind.wrap_i64]; omega) ?_
            repeat first|(with_reducible first|apply wc_seq|apply wc_region|apply wl_nil|apply qk_thn|apply wc_block|apply wc_skip|apply wc_ret|apply wc_exit|apply qk_thn_ret|apply qk_in_ret|apply qk_in|apply qk_thn_exit|apply qk_in_exit|apply qk_round_ret|apply qk_round_exit)|((with_reducible apply ws);exact rfl;exact rfl)|((with_reducible apply wl_yes);exact rfl;exact rfl;exact rfl)|((with_reducible apply wl_no);exact rfl;exact rfl;exact rfl;exact rfl)|((with_reducible apply wl_noU);exact rfl;exact rfl;exact rfl)
            refine qk_round (j + 1) ⟨rfl, rfl, rfl, rfl, rfl, rfl, rfl, trivial⟩ ⟨by omega, ?_, hw4.drew, hrow4, hb4⟩ (by omega)
            intro q hq hqj
            by_cases hqe : q = j
            · subst hqe; exact hle
            · exact hbef q hq (by omega)
          · refine wc_no rfl (by simpa using hle) ?_
            repeat first|(with_reducible first|apply wc_seq|apply wc_region|apply wl_nil|apply qk_thn|apply wc_block|apply wc_skip|apply wc_ret|apply wc_exit|apply qk_thn_ret|apply qk_in_ret|apply qk_in|apply qk_thn_exit|apply qk_in_exit|apply qk_round_ret|apply qk_round_exit)|((with_reducible apply ws);exact rfl;exact rfl)|((with_reducible apply wl_yes);exact rfl;exact rfl;exact rfl)|((with_reducible apply wl_no);exact rfl;exact rfl;exact rfl;exact rfl)|((with_reducible apply wl_noU);exact rfl;exact rfl;exact rfl)
            exact qk_cut j ⟨rfl, rfl, rfl, rfl, rfl, rfl, rfl, trivial⟩ ⟨hj, hbef, fun _ => hle, hw4.drew, hrow4, hb4⟩
      · have hjn : j = qs.length := by omega
        have ht4 : decide ((j : Int) < (qs.length : Int)) = false := by simpa using hjl
        refine wc_par [(0, .int .i64 (j : Int)), (1, .slice ad qs.length cd), (2, .int .i64 (qs.length : Int)), (3, .bool (decide ((j : Int) < (qs.length : Int)))), (4, .bool (decide ((j : Int) < (qs.length : Int)))), (5, undef), (6, undef), (7, undef), (8, undef), (9, undef), (10, undef), (11, undef), (12, undef), (13, .bool false)] []
          (fun _ w' => w' = w4.drew)
          mixed rfl rfl rfl rfl rfl (by show ([0,1,2,3,4,5,6,7,8,9,10,11,12,13] : List Nat).Nodup; decide) rfl rfl (by decide) rfl rfl rfl rfl rfl ?_ trivial ?_
        · intro p hp vals w' hC a k
          subst hC
          simp only [List.mem_cons, List.not_mem_nil, or_false] at hp
          rcases hp with rfl | rfl | rfl | rfl | rfl | rfl | rfl | rfl | rfl | rfl | rfl | rfl | rfl | rfl
          · exact gv rfl rfl (rn_move k rfl)
          · exact gv rfl rfl (rn_move k rfl)
          · exact gv rfl rfl (rn_len k rfl el_tags)
          · exact gv rfl rfl (rn_lss k rfl rfl)
          · exact gv rfl rfl (rn_move k rfl)
          iterate 8 (exact gv_no rfl rfl rfl k rfl (by rw [ht4]; rfl))
          · exact gv rfl rfl (rn_pick k rfl (by rw [ht4]; rfl))
        · rintro vals w5 hvl rfl
          refine qk_thn ?_
          refine wc_no rfl rfl ?_
          repeat first|(with_reducible first|apply wc_seq|apply wc_region|apply wl_nil|apply qk_thn|apply wc_block|apply wc_skip|apply wc_ret|apply wc_exit|apply qk_thn_ret|apply qk_in_ret|apply qk_in|apply qk_thn_exit|apply qk_in_exit|apply qk_round_ret|apply qk_round_exit)|((with_reducible apply ws);exact rfl;exact rfl)|((with_reducible apply wl_yes);exact rfl;exact rfl;exact rfl)|((with_reducible apply wl_no);exact rfl;exact rfl;exact rfl;exact rfl)|((with_reducible apply wl_noU);exact rfl;exact rfl;exact rfl)
          exact qk_cut j ⟨rfl, rfl, rfl, rfl, rfl, rfl, rfl, trivial⟩ ⟨hj, hbef, fun h => absurd h hjl, hw4.drew, hrow4, hb4⟩
    rintro j w4 ⟨hj, hbef, hnot, hw4, hrow4, hb4⟩
    obtain ⟨ad, cd, hde⟩ := Row.shape hrow4
    subst hde
    have hjl' : j ≤ ((u.take i).foldl (step (known fs)) []).length := by rw [tg_len hsay]; exact hj
    have hput := putTag_at u[i].1 u[i].2 ((u.take i).foldl (step (known fs)) []) j hjl'
      (fun q hq hqj => by rw [tg_get hsay (by rw [← tg_len hsay]; exact hq) hq]; exact hbef q _ hqj)
      (fun h => by rw [tg_get hsay (by rw [← tg_len hsay]; exact h) h]; exact hnot _)
    refine wc_cut (α := Unit) (fun _ => [(19, .int .i64 (i : Int)), (18, .int .i64 ((min u.length Most : Nat) : Int)), (17, .slice (some ⟨b, off, none⟩) (min u.length Most) cu), (9, .int .i64 (j : Int)), (8, .pointer (some ⟨w1.heap.size, 0, none⟩)), (6, .slice ad qs.length cd), (5, .int .u32 (known fs : Nat))])
      (fun _ w' => known fs ≤ u[i].1 ∧ (∀ h : j < qs.length, qs[j].1.1 ≠ u[i].1) ∧ w' = w4.drew) ?_ ?_
    · refine wc_seq ?_
      by_cases hk : u[i].1 < known fs
      · have ht4 : decide ((u[i].1 : Int) < (known fs : Int)) = true := by simpa using hk
        refine wc_par [(0, .pointer (some ⟨w1.heap.size, 0 + 0, none⟩)), (1, .int .u32 (u[i].1 : Nat)), (2, .int .u32 (known fs : Nat)), (3, .bool (decide ((u[i].1 : Int) < (known fs : Int)))), (4, .bool (decide ((u[i].1 : Int) < (known fs : Int)))), (5, undef), (6, undef), (7, undef), (8, undef), (9, undef), (10, undef), (11, undef), (12, undef), (13, undef), (14, undef), (15, undef), (16, undef), (17, undef), (18, undef), (19, .bool true)] []
          (fun _ w' => w' = w4.drew) mixed rfl rfl rfl rfl rfl (by show ([0,1,2,3,4,5,6,7,8,9,10,11,12,13,14,15,16,17,18,19] : List Nat).Nodup; decide) rfl rfl (by decide) rfl rfl rfl rfl rfl ?_ trivial ?_
        · intro p hp vals w' hC a k
          subst hC
          simp only [List.mem_cons, List.not_mem_nil, or_false] at hp
          rcases hp with rfl | rfl | rfl | rfl | rfl | rfl | rfl | rfl | rfl | rfl | rfl | rfl | rfl | rfl | rfl | rfl | rfl | rfl | rfl | rfl
          · exact gv rfl rfl (rn_fieldAddr k rfl fo_tag0)
          · exact gv rfl rfl (rn_load k rfl to_u32 (hb4.cell0 (i := 0) rfl))
          · exact gv rfl rfl (rn_move k rfl)
          · exact gv rfl rfl (rn_lss k rfl rfl)
          · exact gv rfl rfl (rn_move k rfl)
          iterate 5 (exact gv_no rfl rfl rfl k rfl (by rw [ht4]; rfl))
          iterate 8 (exact gv_noU rfl rfl rfl k rfl)
          · exact gv_no rfl rfl rfl k rfl (by rw [ht4]; rfl)
          · exact gv rfl rfl (rn_pick k rfl (by rw [ht4]; rfl))
        · rintro vals w5 hvl rfl
          refine qk_thn ?_
          refine wc_yes rfl rfl ?_
          repeat first|(with_reducible first|apply wc_seq|apply wc_region|apply wl_nil|apply qk_thn|apply wc_block|apply wc_skip|apply wc_ret|apply wc_exit|apply qk_thn_ret|apply qk_in_ret|apply qk_in|apply qk_thn_exit|apply qk_in_exit|apply qk_round_ret|apply qk_round_exit)|((with_reducible apply ws);exact rfl;exact rfl)|((with_reducible apply wl_yes);exact rfl;exact rfl;exact rfl)|((with_reducible apply wl_no);exact rfl;exact rfl;exact rfl;exact rfl)|((with_reducible apply wl_noU);exact rfl;exact rfl;exact rfl)
          refine wl_add rfl rfl rfl (r := ((i + 1 : Nat) : Int)) (by rw [IntKind.wrap_i64]; omega) ?_
          repeat first|(with_reducible first|apply wc_seq|apply wc_region|apply wl_nil|apply qk_thn|apply wc_block|apply wc_skip|apply wc_ret|apply wc_exit|apply qk_thn_ret|apply qk_in_ret|apply qk_in|apply qk_thn_exit|apply qk_in_exit|apply qk_round_ret|apply qk_round_exit)|((with_reducible apply ws);exact rfl;exact rfl)|((with_reducible apply wl_yes);exact rfl;exact rfl;exact rfl)|((with_reducible apply wl_no);exact rfl;exact rfl;exact rfl;exact rfl)|((with_reducible apply wl_noU);exact rfl;exact rfl;exact rfl)
          refine qk_round ⟨i + 1, .slice ad qs.length cd, qs⟩ ⟨rfl, rfl, rfl, rfl, rfl, trivial⟩ ⟨by simp only []; omega, hw4.drew, hrow4, ?_, hat⟩ (by simp only []; omega)
          rw [hsay, hsn, step, if_pos hk]
      · have ht4 : decide ((u[i].1 : Int) < (known fs : Int)) = false := by simpa using hk
        by_cases hjl : j < qs.length
        · obtain ⟨g, cap, hde, hg1, hg2', hca⟩ := Row.cells hrow4 (by omega)
          simp only [Value.slice.injEq, true_and] at hde
          obtain ⟨rfl, rfl⟩ := hde
          have hcj := tcells_at hca hjl
          have ht8 : decide ((j : Int) < (qs.length : Int)) = true := by simpa using hjl
          refine wc_par [(0, .pointer (some ⟨w1.heap.size, 0 + 0, none⟩)), (1, .int .u32 (u[i].1 : Nat)), (2, .int .u32 (known fs : Nat)), (3, .bool (decide ((u[i].1 : Int) < (known fs : Int)))), (4, .bool (decide ((u[i].1 : Int) < (known fs : Int)))), (5, .int .i64 (j : Int)), (6, .slice (some ⟨g, 0, none⟩) qs.length cd), (7, .int .i64 (qs.length : Int)), (8, .bool (decide ((j : Int) < (qs.length : Int)))), (9, .bool (decide ((j : Int) < (qs.length : Int)))), (10, .slice (some ⟨g, 0, none⟩) qs.length cd), (11, .int .i64 (j : Int)), (12, .pointer (some ⟨g, 0 + j * 2, none⟩)), (13, .pointer (some ⟨g, 0 + j * 2 + 0, none⟩)), (14, .int .u32 (qs[j].1.1 : Nat)), (15, .pointer (some ⟨w1.heap.size, 0 + 0, none⟩)), (16, .int .u32 (u[i].1 : Nat)), (17, .bool ((qs[j].1.1 : Int) == (u[i].1 : Int))), (18, .bool ((qs[j].1.1 : Int) == (u[i].1 : Int))), (19, .bool ((qs[j].1.1 : Int) == (u[i].1 : Int)))] []
            (fun _ w' => w' = w4.drew) mixed rfl rfl rfl rfl rfl (by show ([0,1,2,3,4,5,6,7,8,9,10,11,12,13,14,15,16,17,18,19] : List Nat).Nodup; decide) rfl rfl (by decide) rfl rfl rfl rfl rfl ?_ trivial ?_
          · intro p hp vals w' hC a k
            subst hC
            simp only [List.mem_cons, List.not_mem_nil, or_false] at hp
            rcases hp with rfl | rfl | rfl | rfl | rfl | rfl | rfl | rfl | rfl | rfl | rfl | rfl | rfl | rfl | rfl | rfl | rfl | rfl | rfl | rfl
            · exact gv rfl rfl (rn_fieldAddr k rfl fo_tag0)
            · exact gv rfl rfl (rn_load k rfl to_u32 (hb4.cell0 (i := 0) rfl))
            · exact gv rfl rfl (rn_move k rfl)
            · exact gv rfl rfl (rn_lss k rfl rfl)
            · exact gv rfl rfl (rn_move k rfl)
            · exact gv_yes rfl rfl rfl k rfl (by rw [ht4]; rfl) (rn_move k rfl)
            · exact gv_yes rfl rfl rfl k rfl (by rw [ht4]; rfl) (rn_move k rfl)
            · exact gv_yes rfl rfl rfl k rfl (by rw [ht4]; rfl) (rn_len k rfl el_tags)
            · exact gv_yes rfl rfl rfl k rfl (by rw [ht4]; rfl) (rn_lss k rfl rfl)
            · exact gv_yes rfl rfl rfl k rfl (by rw [ht4]; rfl) (rn_move k rfl)
            · exact gv_yes rfl rfl rfl k rfl (by rw [ht8]; rfl) (rn_move k rfl)
            · exact gv_yes rfl rfl rfl k rfl (by rw [ht8]; rfl) (rn_move k rfl)
            · exact gv_yes rfl rfl rfl k rfl (by rw [ht8]; rfl) (rn_indexAddr k rfl rfl es_tags hjl)
            · exact gv_yes rfl rfl rfl k rfl (by rw [ht8]; rfl) (rn_fieldAddr k rfl fo_tag0)
            · exact gv_yes rfl rfl rfl k rfl (by rw [ht8]; rfl) (rn_load k rfl to_u32 (hcj.cell (i := 0) rfl))
            · exact gv_yes rfl rfl rfl k rfl (by rw [ht8]; rfl) (rn_fieldAddr k rfl fo_tag0)
            · exact gv_yes rfl rfl rfl k rfl (by rw [ht8]; rfl) (rn_load k rfl to_u32 (hb4.cell0 (i := 0) rfl))
            · exact gv_yes rfl rfl rfl k rfl (by rw [ht8]; rfl) (rn_eql k rfl rfl)
            · exact gv_yes rfl rfl rfl k rfl (by rw [ht4]; rfl) (rn_pick k rfl (by rw [ht8]; rfl))
            · exact gv rfl rfl (rn_pick k rfl (by rw [ht4]; rfl))
          · rintro vals w5 hvl rfl
            refine qk_thn ?_
            by_cases hq : qs[j].1.1 = u[i].1
            · refine wc_yes rfl (by simp [hq]) ?_
              repeat first|(with_reducible first|apply wc_seq|apply wc_region|apply wl_nil|apply qk_thn|apply wc_block|apply wc_skip|apply wc_ret|apply wc_exit|apply qk_thn_ret|apply qk_in_ret|apply qk_in|apply qk_thn_exit|apply qk_in_exit|apply qk_round_ret|apply qk_round_exit)|((with_reducible apply ws);exact rfl;exact rfl)|((with_reducible apply wl_yes);exact rfl;exact rfl;exact rfl)|((with_reducible apply wl_no);exact rfl;exact rfl;exact rfl;exact rfl)|((with_reducible apply wl_noU);exact rfl;exact rfl;exact rfl)
              refine wl_add rfl rfl rfl (r := ((i + 1 : Nat) : Int)) (by rw [IntKind.wrap_i64]; omega) ?_
              repeat first|(with_reducible first|apply wc_seq|apply wc_region|apply wl_nil|apply qk_thn|apply wc_block|apply wc_skip|apply wc_ret|apply wc_exit|apply qk_thn_ret|apply qk_in_ret|apply qk_in|apply qk_thn_exit|apply qk_in_exit|apply qk_round_ret|apply qk_round_exit)|((with_reducible apply ws);exact rfl;exact rfl)|((with_reducible apply wl_yes);exact rfl;exact rfl;exact rfl)|((with_reducible apply wl_no);exact rfl;exact rfl;exact rfl;exact rfl)|((with_reducible apply wl_noU);exact rfl;exact rfl;exact rfl)
              refine qk_round ⟨i + 1, .slice (some ⟨g, 0, none⟩) qs.length cd, qs⟩ ⟨rfl, rfl, rfl, rfl, rfl, trivial⟩ ⟨by simp only []; omega, hw4.drew, hrow4, ?_, hat⟩ (by simp only []; omega)
              rw [hsn, step, if_neg hk, hput, if_pos, hsay]
              have hjl2 : j < ((u.take i).foldl (step (known fs)) []).length := by rw [tg_len hsay]; exact hjl
              exact ⟨hjl2, by rw [tg_get hsay hjl hjl2]; exact hq⟩
            · refine wc_no rfl (by simp only [beq_eq_false_iff_ne]; omega) ?_
              repeat first|(with_reducible first|apply wc_seq|apply wc_region|apply wl_nil|apply qk_thn|apply wc_block|apply wc_skip|apply wc_ret|apply wc_exit|apply qk_thn_ret|apply qk_in_ret|apply qk_in|apply qk_thn_exit|apply qk_in_exit|apply qk_round_ret|apply qk_round_exit)|((with_reducible apply ws);exact rfl;exact rfl)|((with_reducible apply wl_yes);exact rfl;exact rfl;exact rfl)|((with_reducible apply wl_no);exact rfl;exact rfl;exact rfl;exact rfl)|((with_reducible apply wl_noU);exact rfl;exact rfl;exact rfl)
              exact qk_cut () ⟨rfl, rfl, rfl, rfl, rfl, rfl, rfl, trivial⟩ ⟨by omega, fun _ => hq, rfl⟩
        · have ht8 : decide ((j : Int) < (qs.length : Int)) = false := by simpa using hjl
          refine wc_par [(0, .pointer (some ⟨w1.heap.size, 0 + 0, none⟩)), (1, .int .u32 (u[i].1 : Nat)), (2, .int .u32 (known fs : Nat)), (3, .bool (decide ((u[i].1 : Int) < (known fs : Int)))), (4, .bool (decide ((u[i].1 : Int) < (known fs : Int)))), (5, .int .i64 (j : Int)), (6, .slice ad qs.length cd), (7, .int .i64 (qs.length : Int)), (8, .bool (decide ((j : Int) < (qs.length : Int)))), (9, .bool (decide ((j : Int) < (qs.length : Int)))), (10, undef), (11, undef), (12, undef), (13, undef), (14, undef), (15, undef), (16, undef), (17, undef), (18, .bool false), (19, .bool false)] []
            (fun _ w' => w' = w4.drew) mixed rfl rfl rfl rfl rfl (by show ([0,1,2,3,4,5,6,7,8,9,10,11,12,13,14,15,16,17,18,19] : List Nat).Nodup; decide) rfl rfl (by decide) rfl rfl rfl rfl rfl ?_ trivial ?_
          · intro p hp vals w' hC a k
            subst hC
            simp only [List.mem_cons, List.not_mem_nil, or_false] at hp
            rcases hp with rfl | rfl | rfl | rfl | rfl | rfl | rfl | rfl | rfl | rfl | rfl | rfl | rfl | rfl | rfl | rfl | rfl | rfl | rfl | rfl
            · exact gv rfl rfl (rn_fieldAddr k rfl fo_tag0)
            · exact gv rfl rfl (rn_load k rfl to_u32 (hb4.cell0 (i := 0) rfl))
            · exact gv rfl rfl (rn_move k rfl)
            · exact gv rfl rfl (rn_lss k rfl rfl)
            · exact gv rfl rfl (rn_move k rfl)
            · exact gv_yes rfl rfl rfl k rfl (by rw [ht4]; rfl) (rn_move k rfl)
            · exact gv_yes rfl rfl rfl k rfl (by rw [ht4]; rfl) (rn_move k rfl)
            · exact gv_yes rfl rfl rfl k rfl (by rw [ht4]; rfl) (rn_len k rfl el_tags)
            · exact gv_yes rfl rfl rfl k rfl (by rw [ht4]; rfl) (rn_lss k rfl rfl)
            · exact gv_yes rfl rfl rfl k rfl (by rw [ht4]; rfl) (rn_move k rfl)
            iterate 8 (exact gv_no rfl rfl rfl k rfl (by rw [ht8]; rfl))
            · exact gv_yes rfl rfl rfl k rfl (by rw [ht4]; rfl) (rn_pick k rfl (by rw [ht8]; rfl))
            · exact gv rfl rfl (rn_pick k rfl (by rw [ht4]; rfl))
          · rintro vals w5 hvl rfl
            refine qk_thn ?_
            refine wc_no rfl rfl ?_
            repeat first|(with_reducible first|apply wc_seq|apply wc_region|apply wl_nil|apply qk_thn|apply wc_block|apply wc_skip|apply wc_ret|apply wc_exit|apply qk_thn_ret|apply qk_in_ret|apply qk_in|apply qk_thn_exit|apply qk_in_exit|apply qk_round_ret|apply qk_round_exit)|((with_reducible apply ws);exact rfl;exact rfl)|((with_reducible apply wl_yes);exact rfl;exact rfl;exact rfl)|((with_reducible apply wl_no);exact rfl;exact rfl;exact rfl;exact rfl)|((with_reducible apply wl_noU);exact rfl;exact rfl;exact rfl)
            exact qk_cut () ⟨rfl, rfl, rfl, rfl, rfl, rfl, rfl, trivial⟩ ⟨by omega, fun h => absurd h hjl, rfl⟩
    rintro _ w5 ⟨hk, hne, rfl⟩
    have hins : (u.take (i + 1)).foldl (step (known fs)) [] = ((u.take i).foldl (step (known fs)) []).take j ++ (u[i].1, u[i].2) :: ((u.take i).foldl (step (known fs)) []).drop j := by
      rw [hsn, step, if_neg (by omega), hput, if_neg]
      rintro ⟨h1, h2⟩
      have h1' : j < qs.length := by rw [← tg_len hsay]; exact h1
      rw [tg_get hsay h1' h1] at h2
      exact hne h1' h2
    have hdlt4 := fun g hg => World.ownsRow.lt hrow4 g hg
    have hsz4 : w1.heap.size < w4.heap.size := hb4.lt
    repeat first|(with_reducible first|apply wc_seq|apply wc_region|apply wl_nil|apply qk_thn|apply wc_block|apply wc_skip|apply wc_ret|apply wc_exit|apply qk_thn_ret|apply qk_in_ret|apply qk_in|apply qk_thn_exit|apply qk_in_exit|apply qk_round_ret|apply qk_round_exit)|((with_reducible apply ws);exact rfl;exact rfl)|((with_reducible apply wl_yes);exact rfl;exact rfl;exact rfl)|((with_reducible apply wl_no);exact rfl;exact rfl;exact rfl;exact rfl)|((with_reducible apply wl_noU);exact rfl;exact rfl;exact rfl)
    refine wl_build rfl (cs := [.int .u32 0, .slice none 0 0]) (by kernel_rfl) rfl ?_
    refine wl_app1 (by kernel_rfl) rfl rfl rfl rfl rfl rfl rfl rfl hrow4 (by simp; omega) (by simp only [many]; omega) (fun d' w5 hrow5 hg5 => ?_)
    have hrow6 : w5.ownsRow w.heap.size 55 2 d' (qs.length + 1) (tcells (qs.take qs.length ++ (((0, []), .slice none 0 0) : Tg) :: qs.drop qs.length)) := by
      rw [List.take_length, List.drop_length, tcells_append]; exact hrow5
    have hb5 : Box w5 w1.heap.size [.int .u32 u[i].1, sv] 55 := Box.kept (w := w4.drew) hb4 hg5.grown (fun e => by have := (hdlt _ e.symm).2; omega)
    have hw5 : Below w.heap.size w w5 := hw4.drew.trans (hg5.below (by simp; omega) (fun g hg => (hdlt4 g hg).1))
    obtain ⟨g, cap, hde, hgB, hglt, _⟩ := Row.cells hrow5 (by omega)
    subst hde
    have hgne : g ≠ w1.heap.size := by
      rcases hg5.fresh with h | h
      · exact fun e => by have := (hdlt g (by rw [← h]; rfl)).2; omega
      · exact fun e => by have h3 : w4.heap.size ≤ g := h g rfl; omega
    repeat first|(with_reducible first|apply wc_seq|apply wc_region|apply wl_nil|apply qk_thn|apply wc_block|apply wc_skip|apply wc_ret|apply wc_exit|apply qk_thn_ret|apply qk_in_ret|apply qk_in|apply qk_thn_exit|apply qk_in_exit|apply qk_round_ret|apply qk_round_exit)|((with_reducible apply ws);exact rfl;exact rfl)|((with_reducible apply wl_yes);exact rfl;exact rfl;exact rfl)|((with_reducible apply wl_no);exact rfl;exact rfl;exact rfl;exact rfl)|((with_reducible apply wl_noU);exact rfl;exact rfl;exact rfl)
    refine wl_sub' rfl rfl rfl (r := (qs.length : Int)) (by rw [IntKind.wrap_i64]; omega) ?_
    repeat first|(with_reducible first|apply wc_seq|apply wc_region|apply wl_nil|apply qk_thn|apply wc_block|apply wc_skip|apply wc_ret|apply wc_exit|apply qk_thn_ret|apply qk_in_ret|apply qk_in|apply qk_thn_exit|apply qk_in_exit|apply qk_round_ret|apply qk_round_exit)|((with_reducible apply ws);exact rfl;exact rfl)|((with_reducible apply wl_yes);exact rfl;exact rfl;exact rfl)|((with_reducible apply wl_no);exact rfl;exact rfl;exact rfl;exact rfl)|((with_reducible apply wl_noU);exact rfl;exact rfl;exact rfl)
    refine wc_loop (α := Nat) (fun k => [(19, .int .i64 (i : Int)), (18, .int .i64 ((min u.length Most : Nat) : Int)), (17, .slice (some ⟨b, off, none⟩) (min u.length Most) cu), (9, .int .i64 (j : Int)), (8, .pointer (some ⟨w1.heap.size, 0, none⟩)), (6, .slice (some ⟨g, 0, none⟩) (qs.length + 1) cap), (5, .int .u32 (known fs : Nat)), (10, .int .i64 (k : Int))])
      (fun k w' => j ≤ k ∧ k ≤ qs.length ∧ Below w.heap.size w w' ∧ (∃ x : Tg, w'.ownsRow w.heap.size 55 2 (.slice (some ⟨g, 0, none⟩) (qs.length + 1) cap) (qs.length + 1) (tcells (qs.take k ++ x :: qs.drop k))) ∧ Box w' w1.heap.size [.int .u32 u[i].1, sv] 55) (fun k => k - j) qs.length ⟨rfl, rfl, rfl, rfl, rfl, rfl, rfl, rfl, trivial⟩ ⟨hj, Nat.le_refl _, hw5, ⟨_, hrow6⟩, hb5⟩ ?_
    rintro k w6 ⟨hjk, hkq, hw6, ⟨x, hrow6⟩, hb6⟩
    repeat first|(with_reducible first|apply wc_seq|apply wc_region|apply wl_nil|apply qk_thn|apply wc_block|apply wc_skip|apply wc_ret|apply wc_exit|apply qk_thn_ret|apply qk_in_ret|apply qk_in|apply qk_thn_exit|apply qk_in_exit|apply qk_round_ret|apply qk_round_exit)|((with_reducible apply ws);exact rfl;exact rfl)|((with_reducible apply wl_yes);exact rfl;exact rfl;exact rfl)|((with_reducible apply wl_no);exact rfl;exact rfl;exact rfl;exact rfl)|((with_reducible apply wl_noU);exact rfl;exact rfl;exact rfl)
    have hll : (qs.take k ++ x :: qs.drop k).length = qs.length + 1 := by simp; omega
    by_cases hkj : j < k
    · refine wc_yes rfl (by simpa using hkj) ?_
      obtain ⟨k, rfl⟩ : ∃ k', k = k' + 1 := ⟨k - 1, by omega⟩
      repeat first|(with_reducible first|apply wc_seq|apply wc_region|apply wl_nil|apply qk_thn|apply wc_block|apply wc_skip|apply wc_ret|apply wc_exit|apply qk_thn_ret|apply qk_in_ret|apply qk_in|apply qk_thn_exit|apply qk_in_exit|apply qk_round_ret|apply qk_round_exit)|((with_reducible apply ws);exact rfl;exact rfl)|((with_reducible apply wl_yes);exact rfl;exact rfl;exact rfl)|((with_reducible apply wl_no);exact rfl;exact rfl;exact rfl;exact rfl)|((with_reducible apply wl_noU);exact rfl;exact rfl;exact rfl)
      refine wl_sub' rfl rfl rfl (r := (k : Int)) (by rw [IntKind.wrap_i64]; omega) ?_
      refine wl_indexAddr rfl rfl es_tags rfl (by omega) ?_
      obtain ⟨g2, cap2, hde2, _, _, hca⟩ := Row.cells hrow6 (by omega)
      cases hde2
      have hcj := tcells_at hca (j := k) (by omega)
      rw [List.getElem_append_left (by simp; omega)] at hcj
      refine wl_loadAgg (cs := [.int .u32 ((qs.take (k + 1))[k]'(by simp; omega)).1.1, ((qs.take (k + 1))[k]'(by simp; omega)).2]) rfl ta_tag rfl (fun j v e => hcj.cell e) ?_
      refine wl_indexAddr rfl rfl es_tags rfl (by omega) ?_
      have hone2 : (([.int .u32 ((qs.take (k + 1))[k]'(by simp; omega)).1.1, ((qs.take (k + 1))[k]'(by simp; omega)).2] : List Value).all fun v => v.oneCell') = true := by
        obtain ⟨a3, c3, h3, _⟩ := (hat ((qs.take (k + 1))[k]'(by simp; omega)) (List.mem_of_mem_take (List.getElem_mem _))).shape
        rw [h3]; rfl
      refine wl_storeRow (sz := 2) (cs := [.int .u32 ((qs.take (k + 1))[k]'(by simp; omega)).1.1, ((qs.take (k + 1))[k]'(by simp; omega)).2]) hrow6 rfl rfl rfl rfl tz_tag hone2 (by omega) (fun w7 hrow7 hg7 hs7 => ?_)
      rw [tcells_set _ (by omega)] at hrow7
      have hsh := shift_step qs x (k := k) (by omega)
      rw [List.getElem_take] at hrow7
      rw [hsh] at hrow7
      repeat first|(with_reducible first|apply wc_seq|apply wc_region|apply wl_nil|apply qk_thn|apply wc_block|apply wc_skip|apply wc_ret|apply wc_exit|apply qk_thn_ret|apply qk_in_ret|apply qk_in|apply qk_thn_exit|apply qk_in_exit|apply qk_round_ret|apply qk_round_exit)|((with_reducible apply ws);exact rfl;exact rfl)|((with_reducible apply wl_yes);exact rfl;exact rfl;exact rfl)|((with_reducible apply wl_no);exact rfl;exact rfl;exact rfl;exact rfl)|((with_reducible apply wl_noU);exact rfl;exact rfl;exact rfl)
      refine wl_sub' rfl rfl rfl (r := (k : Int)) (by rw [IntKind.wrap_i64]; omega) ?_
      repeat first|(with_reducible first|apply wc_seq|apply wc_region|apply wl_nil|apply qk_thn|apply wc_block|apply wc_skip|apply wc_ret|apply wc_exit|apply qk_thn_ret|apply qk_in_ret|apply qk_in|apply qk_thn_exit|apply qk_in_exit|apply qk_round_ret|apply qk_round_exit)|((with_reducible apply ws);exact rfl;exact rfl)|((with_reducible apply wl_yes);exact rfl;exact rfl;exact rfl)|((with_reducible apply wl_no);exact rfl;exact rfl;exact rfl;exact rfl)|((with_reducible apply wl_noU);exact rfl;exact rfl;exact rfl)
      have hs6 := hw6.size
      exact qk_round k ⟨rfl, rfl, rfl, rfl, rfl, rfl, rfl, rfl, trivial⟩ ⟨by omega, by omega, hw6.trans (below_of hg7 hs6 (by intro q hq; simp at hq; omega)), ⟨_, hrow7⟩, hb6.kept hg7 (by simp; omega)⟩ (by omega)
    · have hkj' : k = j := by omega
      subst hkj'
      refine wc_no rfl (by simp) ?_
      repeat first|(with_reducible first|apply wc_seq|apply wc_region|apply wl_nil|apply qk_thn|apply wc_block|apply wc_skip|apply wc_ret|apply wc_exit|apply qk_thn_ret|apply qk_in_ret|apply qk_in|apply qk_thn_exit|apply qk_in_exit|apply qk_round_ret|apply qk_round_exit)|((with_reducible apply ws);exact rfl;exact rfl)|((with_reducible apply wl_yes);exact rfl;exact rfl;exact rfl)|((with_reducible apply wl_no);exact rfl;exact rfl;exact rfl;exact rfl)|((with_reducible apply wl_noU);exact rfl;exact rfl;exact rfl)
      refine wl_loadBAgg (cs := [.int .u32 u[i].1, sv]) rfl ta_tag rfl hb6 ?_
      refine wl_indexAddr rfl rfl es_tags rfl (by omega) ?_
      refine wl_storeRow (sz := 2) (cs := [.int .u32 u[i].1, sv]) hrow6 rfl rfl rfl rfl tz_tag hone (by omega) (fun w7 hrow7 hg7 hs7 => ?_)
      have hset := tcells_set (qs.take k ++ x :: qs.drop k) (j := k) (by omega) ((u[i].1, u[i].2), sv)
      simp only [] at hset
      rw [hset, shift_end qs x _ hkq] at hrow7
      have hs6 := hw6.size
      repeat first|(with_reducible first|apply wc_seq|apply wc_region|apply wl_nil|apply qk_thn|apply wc_block|apply wc_skip|apply wc_ret|apply wc_exit|apply qk_thn_ret|apply qk_in_ret|apply qk_in|apply qk_thn_exit|apply qk_in_exit|apply qk_round_ret|apply qk_round_exit)|((with_reducible apply ws);exact rfl;exact rfl)|((with_reducible apply wl_yes);exact rfl;exact rfl;exact rfl)|((with_reducible apply wl_no);exact rfl;exact rfl;exact rfl;exact rfl)|((with_reducible apply wl_noU);exact rfl;exact rfl;exact rfl)
      refine wl_add rfl rfl rfl (r := ((i + 1 : Nat) : Int)) (by rw [IntKind.wrap_i64]; omega) ?_
      repeat first|(with_reducible first|apply wc_seq|apply wc_region|apply wl_nil|apply qk_thn|apply wc_block|apply wc_skip|apply wc_ret|apply wc_exit|apply qk_thn_ret|apply qk_in_ret|apply qk_in|apply qk_thn_exit|apply qk_in_exit|apply qk_round_ret|apply qk_round_exit)|((with_reducible apply ws);exact rfl;exact rfl)|((with_reducible apply wl_yes);exact rfl;exact rfl;exact rfl)|((with_reducible apply wl_no);exact rfl;exact rfl;exact rfl;exact rfl)|((with_reducible apply wl_noU);exact rfl;exact rfl;exact rfl)
      refine qk_round ⟨i + 1, .slice (some ⟨g, 0, none⟩) (qs.length + 1) cap, qs.take k ++ ((u[i].1, u[i].2), sv) :: qs.drop k⟩ ⟨rfl, rfl, rfl, rfl, rfl, trivial⟩ ⟨by simp only []; omega, hw6.trans (below_of hg7 hs6 (by intro q hq; simp at hq; omega)), ?_, ?_, ?_⟩ (by simp only []; omega)
      · simp only []
        rw [show (qs.take k ++ (((u[i].1, u[i].2), sv) : Tg) :: qs.drop k).length = qs.length + 1 from by simp; omega]
        exact hrow7
      · simp only []
        rw [hins, ← hsay, List.map_append, List.map_cons, List.map_take, List.map_drop]
      · intro q hq
        simp only [List.mem_append, List.mem_cons] at hq
        rcases hq with hq | rfl | hq
        · exact hat q (List.mem_of_mem_take hq)
        · exact hsv
        · exact hat q (List.mem_of_mem_drop hq)
  · refine wc_no rfl (by simpa using hlt) ?_
    repeat first|(with_reducible first|apply wc_seq|apply wc_region|apply wl_nil|apply qk_thn|apply wc_block|apply wc_skip|apply wc_ret|apply wc_exit|apply qk_thn_ret|apply qk_in_ret|apply qk_in|apply qk_thn_exit|apply qk_in_exit|apply qk_round_ret|apply qk_round_exit)|((with_reducible apply ws);exact rfl;exact rfl)|((with_reducible apply wl_yes);exact rfl;exact rfl;exact rfl)|((with_reducible apply wl_no);exact rfl;exact rfl;exact rfl;exact rfl)|((with_reducible apply wl_noU);exact rfl;exact rfl;exact rfl)
    refine qk_ret1 rfl rfl ⟨_, rfl, hw1, ?_⟩
    have hin : i = min u.length Most := by omega
    refine ⟨qs, hrow, ?_, hat⟩
    rw [hsay, hin]
    show _ = (u.take Most).foldl (step (known fs)) []
    rw [take_min]
theorem fn_unknown (fv uv : Value) (fs : List Fld) (u : List (Nat × List UInt8)) (B : Nat) (w : World) (hB : B ≤ w.heap.size) (hf : Sq B w fv (fs.map fldD)) (hu : Sq B w uv (u.map tagD)) (ht : ∀ f ∈ fs, f.tag < 2147483647) (hl : fs.length ≤ 1000000) :
    Fn 28 [fv, uv] w fun r w' => Sq w'.heap.size w' r ((unknown fs u).map tagD) := by
  refine (fn_unknownR fv uv fs u B w hB hf hu ht hl).mono ?_
  rintro e w1 ⟨v, rfl, hw1, qs, hrow, hsay, hat⟩
  refine ⟨v, rfl, hw1, ?_⟩
  have hd : (unknown fs u).map tagD = qs.map fun q => tagD q.1 := by
    rw [← hsay, List.map_map]; rfl
  rw [hd]
  have hr := tcells_reps (B := w1.heap.size) (w := w1) qs (fun q hq => (hat q hq).below (hw1.mono hB) (by have := hw1.size; omega))
  exact Row.sq (ds := qs.map fun q => tagD q.1) (by simpa using hrow) hr (Nat.le_refl _)
end
end Go.Proofs.YtgblofcjkgbojaaDoor
