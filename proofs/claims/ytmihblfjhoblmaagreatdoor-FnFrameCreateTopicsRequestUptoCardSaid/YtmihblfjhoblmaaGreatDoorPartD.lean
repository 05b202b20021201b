/- A part of the proof of FnFrameCreateTopicsRequestUptoCardSaid: what its texts prove stands at the head of each. Conditions: those that each theorem names. -/
import Derived.Test.YtmihblfjhoblmaaGreatDoorPartC
import Derived.Carry
import Derived.Test.YtmihblfjhoblmaaGreatDoorProg
import Derived.Test.YtmihblfjhoblmaaGreatDoorPartB
import Derived.Test.YtmihblfjhoblmaaGreatDoorPartA
import Derived.Laws.CopyRow
import Derived.Laws.OwnMore
import Derived.Deep.QuietTactic
import Derived.Sort.LotA
import Derived.Maps.RangeRun
set_option linter.all false
/- Tags as a map, and the map's writing. Over any program. -/
namespace Go.Proofs.YtmihblfjhoblmaaGreatDoor
open Go Go.RowKit

theorem Jy {ok : Nat → Prop} {w : World} {es : Array MapEntry} : ∀ (kvs : List (Nat × D)), Je ok w es kvs ↔ ∀ kv ∈ kvs, ∃ e ∈ es, e.key = .int .u32 kv.1 ∧ Rep ok w kv.2 [e.val]
  | [] => by simp [Je]
  | kv :: kvs => by simp only [Je, Jy kvs, List.mem_cons, forall_eq_or_imp]
theorem VB {k : Nat} {v : List UInt8} : ∀ {u : List (Nat × List UInt8)}, Ve u → ∀ {kv : Nat × List UInt8}, kv ∈ Vn k v u ↔ kv = (k, v) ∨ (kv ∈ u ∧ kv.1 ≠ k)
  | [], _, kv => by simp [Vn]
  | x :: u, h, kv => by
    have hx := List.pairwise_cons.1 h
    simp only [Vn]
    split
    · rename_i hlt
      simp only [List.mem_cons, VB hx.2]
      constructor
      · rintro (rfl | rfl | ⟨h1, h2⟩)
        · exact .inr ⟨.inl rfl, by omega⟩
        · exact .inl rfl
        · exact .inr ⟨.inr h1, h2⟩
      · rintro (rfl | ⟨rfl | h1, h2⟩)
        · exact .inr (.inl rfl)
        · exact .inl rfl
        · exact .inr (.inr ⟨h1, h2⟩)
    · split
      · rename_i h1 h2
        simp only [List.mem_cons]
        constructor
        · rintro (rfl | h3)
          · exact .inl rfl
          · exact .inr ⟨.inr h3, by have := hx.1 kv h3; omega⟩
        · rintro (rfl | ⟨rfl | h3, h4⟩)
          · exact .inl rfl
          · exact absurd h2 h4
          · exact .inr h3
      · rename_i h1 h2
        simp only [List.mem_cons]
        constructor
        · rintro (rfl | rfl | h3)
          · exact .inl rfl
          · exact .inr ⟨.inl rfl, h2⟩
          · exact .inr ⟨.inr h3, by have := hx.1 kv h3; omega⟩
        · rintro (rfl | ⟨rfl | h3, _⟩)
          · exact .inl rfl
          · exact .inr (.inl rfl)
          · exact .inr (.inr h3)
theorem UG {k : Nat} {v : List UInt8} : ∀ {u : List (Nat × List UInt8)}, Ve u → Ve (Vn k v u)
  | [], _ => by simp [Vn, Ve]
  | x :: u, h => by
    have hx := List.pairwise_cons.1 h
    simp only [Vn]
    split
    · rename_i hlt
      refine List.pairwise_cons.2 ⟨fun y hy => ?_, UG hx.2⟩
      rcases (VB hx.2).1 hy with rfl | ⟨h1, _⟩
      · exact hlt
      · exact hx.1 y h1
    · split
      · rename_i h1 h2
        exact List.pairwise_cons.2 ⟨fun y hy => by have := hx.1 y hy; show k < _; omega, hx.2⟩
      · rename_i h1 h2
        refine List.pairwise_cons.2 ⟨fun y hy => ?_, h⟩
        rcases List.mem_cons.1 hy with rfl | hm
        · show k < _; omega
        · have := hx.1 y hm; show k < _; omega
theorem JI {k : Nat} {v : List UInt8} : ∀ {u : List (Nat × List UInt8)}, Ve u → (Vn k v u).length = if k ∈ u.map (·.1) then u.length else u.length + 1
  | [], _ => by simp [Vn]
  | x :: u, h => by
    have hx := List.pairwise_cons.1 h
    have ih := JI (k := k) (v := v) hx.2
    simp only [Vn]
    split
    · rename_i hlt
      simp only [List.length_cons, ih, List.map_cons, List.mem_cons]
      have : (k = x.1 ∨ k ∈ u.map (·.1)) ↔ k ∈ u.map (·.1) := by
        constructor
        · rintro (h | h)
          · omega
          · exact h
        · exact .inr
      simp only [this]
      split <;> rfl
    · split
      · rename_i h1 h2
        rw [if_pos (by simp [h2])]; simp
      · rename_i h1 h2
        rw [if_neg ?_]
        · simp
        · simp only [List.map_cons, List.mem_cons, List.mem_map, not_or, not_exists, not_and]
          refine ⟨fun e => h2 e.symm, fun y hy e => ?_⟩
          have := hx.1 y hy
          omega
section
variable {P : Program} {w : World} {mty kt et : TypeId} {r clock : Nat} {es : Array MapEntry} {ks : List Nat}
theorem run_mapUpd (hm : P.underlying mty = some (.map kt et)) (hd : P.underlying kt = some (.int .u32)) (hb : w.heap[r]? = some (.map es clock)) (hmap : Mapped es clock ks) (hin : ∀ k ∈ ks, ∃ e ∈ es, e.key = .int .u32 k) (key : Nat) (val : Value) :
    ∃ w' es' clock', (Instr.mapUpdate mty (.map (some r)) (.int .u32 key) val).run P w = .ok () w' ∧ w'.heap[r]? = some (.map es' clock') ∧ Chg (· = r) w w' ∧ w'.heap.size = w.heap.size ∧ MapKept.Stamped es' clock' ∧
      ((key ∉ ks ∧ es' = es.push { key := .int .u32 key, val := val, born := clock }) ∨ (key ∈ ks ∧ ∃ j e, es[j]? = some e ∧ e.key = .int .u32 key ∧ es' = es.modify j fun e => { e with key := .int .u32 key, val := val })) := by
  obtain ⟨h1, h2, h3, _⟩ := hmap
  have hk : MapKept.IsKey (.int .u32) (.int .u32 (key : Int)) := rfl
  have hks : ∀ x ∈ es.toList, MapKept.IsKey (.int .u32) x.key := fun x hx => by
    obtain ⟨k, _, e⟩ := h3 x hx
    rw [e]; rfl
  have chg : ∀ o, Chg (· = r) w { w with heap := w.heap.setIfInBounds r o } := fun o => ⟨rfl, rfl, rfl, by simp, fun k _ hne => (MapKept.heap_set hb).2 k hne⟩
  rcases MapKept.findNow_spec hk es.toList 0 hks with ⟨g1, g2⟩ | ⟨j, e, g1, g2, g3⟩
  · refine ⟨_, es.push { key := .int .u32 key, val := val, born := clock }, clock + 1, ?_, (MapKept.heap_set hb).1, chg _, by simp, MapKept.stamped_push h2 g2, .inl ⟨fun hin' => ?_, rfl⟩⟩
    · simp [Instr.mapUpdate, run_underlying hm, MapKept.run_getObj_map hb, MapKept.run_checkKey hd hk, MapKept.run_findKey hd g1, MapKept.run_setObj_map _ hb, Result.andThen]
    · obtain ⟨x, hx, e⟩ := hin key hin'
      exact g2 x (Array.mem_toList_iff.2 hx) e
  · have hj : es[j]? = some e := by simpa using g2
    refine ⟨_, es.modify j fun e => { e with key := .int .u32 key, val := val }, clock, ?_, (MapKept.heap_set hb).1, chg _, by simp, ?_, .inr ⟨?_, j, e, hj, g3, rfl⟩⟩
    · simp [Instr.mapUpdate, run_underlying hm, MapKept.run_getObj_map hb, MapKept.run_checkKey hd hk, MapKept.run_findKey hd g1, hj, g3, MapKept.run_keyThatStays hk, MapKept.run_setObj_map _ hb, Result.andThen]
    · exact MapKept.stamped_modify h2 _ _ (fun _ _ => rfl) (fun e' _ he' => by rw [hj] at he'; cases he'; exact g3.symm)
    · obtain ⟨k, hk', e'⟩ := h3 e (Array.mem_toList_iff.2 (Array.mem_of_getElem? hj))
      rw [g3] at e'
      simp only [Value.int.injEq, true_and] at e'
      have : key = k := by omega
      rw [this]; exact hk'
/-- Tags in a map's block; their octets lie in the block sb. -/
structure TagMap (w : World) (sb r : Nat) (u : List (Nat × List UInt8)) : Prop where
  at_ : ∃ es clock, w.heap[r]? = some (.map es clock) ∧ Mapped es clock (u.map (·.1)) ∧ Je (fun b => b = sb) w es (u.map fun kv => (kv.1, XY kv.2))
  up : Ve u
theorem TagMap.keep {w w' : World} {S : Nat → Prop} {sb r : Nat} {u : List (Nat × List UInt8)} (h : TagMap w sb r u) (hc : Chg S w w') (hr : ¬ S r) (hs : ¬ S sb) (hsb : sb < w.heap.size) : TagMap w' sb r u := by
  obtain ⟨⟨es, clock, hb, hm, hk⟩, hu⟩ := h
  have hlt : r < w.heap.size := (Array.getElem?_eq_some_iff.1 hb).1
  exact ⟨⟨es, clock, (hc.block r hlt hr).trans hb, hm, Je.mono (fun b hb => ⟨hb, by subst hb; exact hc.block b hsb hs⟩) es _ hk⟩, hu⟩
theorem src_rep {w : World} {sb : Nat} {v : Value} {s : List UInt8} (h : JY w sb v s) : Rep (fun b => b = sb) w (XY s) [v] := by
  simp only [XY, Rep, List.length_map]
  rcases h with ⟨rfl, rfl⟩ | ⟨o, c, rfl, hle, hcs⟩
  · exact ⟨none, 0, rfl, Nat.le_refl _, .inl rfl⟩
  · exact ⟨_, c, rfl, hle, .inr ⟨sb, o, bv s, rfl, rfl, hcs, (VT s _).2 rfl⟩⟩
theorem run_tagSet (hm : P.underlying mty = some (.map kt et)) (hd : P.underlying kt = some (.int .u32)) {sb : Nat} {u : List (Nat × List UInt8)} (h : TagMap w sb r u) (hne : r ≠ sb) (hsb : sb < w.heap.size) (key : Nat) {val : Value} {s : List UInt8} (hv : JY w sb val s) :
    ∃ w', (Instr.mapUpdate mty (.map (some r)) (.int .u32 key) val).run P w = .ok () w' ∧ Chg (· = r) w w' ∧ w'.heap.size = w.heap.size ∧ TagMap w' sb r (Vn key s u) := by
  obtain ⟨⟨es, clock, hb, hmap, hk⟩, hu⟩ := h
  rw [Jy] at hk
  have hk' : ∀ kv ∈ u, ∃ e ∈ es, e.key = .int .u32 kv.1 ∧ Rep (fun b => b = sb) w (XY kv.2) [e.val] := fun kv hkv => hk (kv.1, XY kv.2) (List.mem_map.2 ⟨kv, hkv, rfl⟩)
  obtain ⟨w', es', clock', hrun, hb', hc, hsz, hst, hcase⟩ := run_mapUpd hm hd hb hmap (fun k hk0 => by
    obtain ⟨kv, hkv, rfl⟩ := List.mem_map.1 hk0
    obtain ⟨e, he, h1, _⟩ := hk' kv hkv
    exact ⟨e, he, h1⟩) key val
  have keep : ∀ {d : D} {cs : List Value}, Rep (fun b => b = sb) w d cs → Rep (fun b => b = sb) w' d cs := fun hr => Rep.mono (fun b hb => ⟨hb, by subst hb; exact hc.block b hsb (fun e => hne e.symm)⟩) _ _ hr
  have hnew : Rep (fun b => b = sb) w' (XY s) [val] := keep (src_rep hv)
  have hlen := JI (k := key) (v := s) hu
  refine ⟨w', hrun, hc, hsz, ⟨⟨es', clock', hb', ⟨?_, hst, ?_, List.pairwise_map.2 (UG hu)⟩, ?_⟩, UG hu⟩⟩
  · rw [List.length_map, hlen]
    rcases hcase with ⟨hni, rfl⟩ | ⟨hin, j, e, _, _, rfl⟩
    · rw [if_neg hni, Array.size_push, hmap.1, List.length_map]
    · rw [if_pos hin, Array.size_modify, hmap.1, List.length_map]
  · intro e he
    rcases hcase with ⟨hni, rfl⟩ | ⟨hin, j, e0, hj, hj2, rfl⟩
    · simp only [Array.toList_push, List.mem_append, List.mem_singleton] at he
      rcases he with he | rfl
      · obtain ⟨k, hk0, e1⟩ := hmap.2.2.1 e he
        obtain ⟨kv, hkv, rfl⟩ := List.mem_map.1 hk0
        refine ⟨kv.1, List.mem_map.2 ⟨kv, (VB hu).2 (.inr ⟨hkv, fun e2 => hni (by rw [← e2]; exact hk0)⟩), rfl⟩, e1⟩
      · exact ⟨key, List.mem_map.2 ⟨(key, s), (VB hu).2 (.inl rfl), rfl⟩, rfl⟩
    · have hkeys := MapKept.modify_keys (es := es) j (fun e => { e with key := .int .u32 key, val := val }) (fun e' he' => by rw [hj] at he'; cases he'; exact hj2.symm)
      have : e.key ∈ (es.modify j fun e => { e with key := .int .u32 key, val := val }).toList.map (·.key) := List.mem_map.2 ⟨e, he, rfl⟩
      rw [hkeys] at this
      obtain ⟨y, hy, e1⟩ := List.mem_map.1 this
      obtain ⟨k, hk0, e2⟩ := hmap.2.2.1 y hy
      obtain ⟨kv, hkv, rfl⟩ := List.mem_map.1 hk0
      by_cases hkk : kv.1 = key
      · exact ⟨key, List.mem_map.2 ⟨(key, s), (VB hu).2 (.inl rfl), rfl⟩, by rw [← e1, e2, hkk]⟩
      · exact ⟨kv.1, List.mem_map.2 ⟨kv, (VB hu).2 (.inr ⟨hkv, hkk⟩), rfl⟩, by rw [← e1, e2]⟩
  · rw [Jy]
    intro kvd hkvd
    obtain ⟨kv, hkv, rfl⟩ := List.mem_map.1 hkvd
    rcases (VB hu).1 hkv with rfl | ⟨hold, hkne⟩
    · rcases hcase with ⟨hni, rfl⟩ | ⟨hin, j, e0, hj, hj2, rfl⟩
      · exact ⟨_, Array.mem_push_self, rfl, hnew⟩
      · refine ⟨{ e0 with key := .int .u32 key, val := val }, ?_, rfl, hnew⟩
        have hlt := (Array.getElem?_eq_some_iff.1 hj).1
        refine Array.mem_of_getElem? (i := j) ?_
        rw [Array.getElem?_modify, if_pos rfl, hj]; rfl
    · obtain ⟨e, he, h1, h2⟩ := hk' kv hold
      rcases hcase with ⟨hni, rfl⟩ | ⟨hin, j, e0, hj, hj2, rfl⟩
      · exact ⟨e, Array.mem_push_of_mem _ he, h1, keep h2⟩
      · obtain ⟨i, hi⟩ := Array.mem_iff_getElem?.1 he
        have hij : j ≠ i := by
          rintro rfl
          rw [hj] at hi
          simp only [Option.some.injEq] at hi
          subst hi
          rw [hj2] at h1
          simp only [Value.int.injEq, true_and] at h1
          exact hkne (by omega)
        refine ⟨e, Array.mem_of_getElem? (i := i) ?_, h1, keep h2⟩
        rw [Array.getElem?_modify, if_neg hij]; exact hi
/-- A map with no entry yet. -/
theorem tagMap_new (w : World) (sb : Nat) : TagMap (w.alloc (.map #[] 0)) sb w.heap.size [] := ⟨⟨#[], 0, heap_alloc_new w _, ⟨rfl, MapKept.stamped_empty 0, by simp, by simp⟩, by simp [Je]⟩, by simp [Ve]⟩
theorem TagMap.rep {w : World} {sb r lo : Nat} {u : List (Nat × List UInt8)} (h : TagMap w sb r u) (hr : lo ≤ r) (hsb : sb < w.heap.size) : Rep (Dk sb lo w) w (Ut u) [.map (some r)] := by
  obtain ⟨⟨es, clock, hb, hm, hk⟩, hu⟩ := h
  have hlt : r < w.heap.size := (Array.getElem?_eq_some_iff.1 hb).1
  simp only [Ut, Rep]
  refine .inr ⟨r, es, clock, rfl, ⟨.inr hr, hlt⟩, hb, ?_, Je.mono (fun b hb => ⟨by subst hb; exact ⟨.inl rfl, hsb⟩, rfl⟩) es _ hk⟩
  rw [List.map_map]
  exact hm
end
end Go.Proofs.YtmihblfjhoblmaaGreatDoor

/- Tags.Set, internalReadTags at the seat. -/
namespace Go.Proofs.YtmihblfjhoblmaaGreatDoor.Rdk
open Go Go.RowKit

set_option maxRecDepth 100000
section
variable {P : Program} {ops : Array Oper} {Q : Exit → Act → World → Prop} {N : Nat} {rest : List Oper} {L : Sl} {w : World} {d : Nat} {ty : TypeId} {pos : String} {aft : Array Edge}
theorem wl_mapNil {x : Operand} {t u : TypeId} {m : Option Nat} (hx : ev L x = some (.map m)) (ht : (match P.underlying t with | some (.map _ _) => true | _ => false) = true) (hd : Nat.blt d N = true) (h : WL rest P ops Q N ((d, .bool m.isNone) :: L) w) :
    WL (⟨some d, .binOp .eql t x (.const (.map none)) u, ty, pos, aft, none⟩ :: rest) P ops Q N L w := by
  intro a k
  split at ht
  · rename_i kt et hu
    refine YR (o := ⟨some d, .binOp .eql t x (.const (.map none)) u, ty, pos, aft, none⟩) (v := .bool m.isNone) (w' := w) rfl ?_ (h _ (k.put _ hd))
    simp only [execOp, k.eval hx, XG]
    have h : ∀ d : Nat, (Op.equalIn (d + 1) t (.map m) (.map none)).run P w = .ok m.isNone w := fun d => by
      cases m <;> simp [Op.equalIn, run_underlying hu]
    simp only [eqGuard, binOp]
    simp [Op.equal, Op.maxDepth, h 9999]
  · cases ht
theorem wl_makeMap {t : TypeId} (hd : Nat.blt d N = true) (h : WL rest P ops Q N ((d, .map (some w.heap.size)) :: L) (w.alloc (.map #[] 0))) : WL (⟨some d, .makeMap t none, ty, pos, aft, none⟩ :: rest) P ops Q N L w := by
  intro a k
  refine YR (o := ⟨some d, .makeMap t none, ty, pos, aft, none⟩) (v := .map (some w.heap.size)) rfl ?_ (h _ (k.put _ hd))
  simp [execOp, run_makeMap]
theorem wl_mapUpd {x y z : Operand} {t : TypeId} {m kk v : Value} {w' : World} (hx : ev L x = some m) (hy : ev L y = some kk) (hz : ev L z = some v) (hr : (Instr.mapUpdate t m kk v).run P w = .ok () w') (h : WL rest P ops Q N L w') :
    WL (⟨none, .mapUpdate t x y z, ty, pos, aft, none⟩ :: rest) P ops Q N L w := by
  intro a k
  refine VW (o := ⟨none, .mapUpdate t x y z, ty, pos, aft, none⟩) (w' := w') rfl ?_ (h _ k)
  simp [execOp, k.eval hx, k.eval hy, k.eval hz, hr]
end
def tblT : Tbl := ⟨[(66, 0, 0)], []⟩
theorem tblT_ok : tblT.ok Tryz.prog = true := by kernel_rfl
theorem wt {ops : Array Oper} {Q : Exit → Act → World → Prop} {N : Nat} {rest : List Oper} {L : Sl} {w : World} {d : Nat} {ty : TypeId} {pos : String} {aft : Array Edge} {o : Op} {v : Value}
    (hs : Yl4 tblT L o = some v) (hd : Nat.blt d N = true) (h : WL rest Tryz.prog ops Q N ((d, v) :: L) w) : WL (⟨some d, o, ty, pos, aft, none⟩ :: rest) Tryz.prog ops Q N L w := wl_step tblT tblT_ok hs hd h
theorem um : Tryz.prog.underlying 64 = some (.map 59 24) := by kernel_rfl
theorem uk : Tryz.prog.underlying 59 = some (.int .u32) := by kernel_rfl
theorem to_map : XS Tryz.prog 64 = true := by kernel_rfl
theorem zv_tags (w : World) : (zeroValue 66).run Tryz.prog w = .ok (.agg #[.map none]) w := by kernel_rfl
theorem ta_tags : Un Tryz.prog 66 = some 1 := by kernel_rfl
theorem tz_tags : (Tryz.prog.info? 66).map (·.size) = some 1 := by kernel_rfl
/-- What a Tags' cell says. -/
def Yh7 (w : World) (sb lo : Nat) (m : Value) (u : List (Nat × List UInt8)) : Prop := (m = .map none ∧ u = []) ∨ ∃ r, m = .map (some r) ∧ lo ≤ r ∧ TagMap w sb r u
theorem Yh7.keep {w w' : World} {S : Nat → Prop} {sb lo : Nat} {m : Value} {u : List (Nat × List UInt8)} (h : Yh7 w sb lo m u) (hc : Chg S w w') (hr : ∀ r, lo ≤ r → r < w.heap.size → ¬ S r) (hs : ¬ S sb) (hsb : sb < w.heap.size) : Yh7 w' sb lo m u := by
  rcases h with h | ⟨r, rfl, hlo, ht⟩
  · exact .inl h
  · have hlt : r < w.heap.size := by
      obtain ⟨⟨es, clock, hb, _⟩, _⟩ := ht
      exact (Array.getElem?_eq_some_iff.1 hb).1
    exact .inr ⟨r, rfl, hlo, ht.keep hc (hr r hlo hlt) hs hsb⟩
theorem fn_set (w : World) (tb sb lo key : Nat) (val m : Value) (u : List (Nat × List UInt8)) (e : TypeId) (s : List UInt8) (hb : Box w tb [m] e) (ht : Yh7 w sb lo m u) (hv : JY w sb val s) (h1 : tb < lo) (h2 : sb < lo) (h3 : lo ≤ w.heap.size) (h4 : tb ≠ sb) :
    Calls Tryz.prog 72 #[.pointer (some ⟨tb, 0, none⟩), .int .u32 key, val] w fun en w' => en = .returned (.tuple #[]) ∧ ∃ m', Box w' tb [m'] e ∧ Yh7 w' sb lo m' (Vn key s u) ∧ Chg (fun j => j = tb ∨ lo ≤ j) w w' := by
  refine enter Tryz.func72 rfl Tryz.ntmps72 rfl ?_
  have upd : ∀ (w1 : World) (r : Nat) (u1 : List (Nat × List UInt8)), Box w1 tb [.map (some r)] e → lo ≤ r → TagMap w1 sb r u1 → JY w1 sb val s → sb < w1.heap.size → Chg (fun j => j = tb ∨ lo ≤ j) w w1 → Vn key s u1 = Vn key s u →
      ∃ w', (Instr.mapUpdate 64 (.map (some r)) (.int .u32 key) val).run Tryz.prog w1 = .ok () w' ∧ (∃ m', Box w' tb [m'] e ∧ Yh7 w' sb lo m' (Vn key s u) ∧ Chg (fun j => j = tb ∨ lo ≤ j) w w') := by
    intro w1 r u1 hb1 hr htm hv1 hsb hc heq
    obtain ⟨w', hrun, hc', _, ht'⟩ := run_tagSet um uk htm (by omega) hsb key hv1
    exact ⟨w', hrun, _, hb1.chg hc' (by show tb ≠ r; omega), .inr ⟨r, rfl, hr, by rw [← heq]; exact ht'⟩, hc.trans (hc'.wide (fun j hj => .inr (by have : j = r := hj; omega)))⟩
  rcases ht with ⟨rfl, rfl⟩ | ⟨r, rfl, hr, htm⟩
  · refine Yk (Yk (Yd ?_))
    refine wt rfl rfl ?_
    refine wt rfl rfl ?_
    refine wt rfl rfl ?_
    refine Yv rfl to_map rfl hb rfl ?_
    refine wl_mapNil rfl (by kernel_rfl) rfl ?_
    refine Ym (Yj (Yz rfl rfl (Yd ?_)))
    refine wt rfl rfl ?_
    refine wl_makeMap rfl ?_
    have hal : Chg (fun _ => False) w (w.alloc (.map #[] 0)) := Ua w _ _
    have hnew := tagMap_new w sb
    have hb1 := hb.chg hal id
    have hs1 : (w.alloc (.map #[] 0)).heap.size = w.heap.size + 1 := by simp
    have hv1 := hv.chg hal id
    generalize w.alloc (.map #[] 0) = w1 at *
    refine wt rfl rfl ?_
    refine wt rfl rfl ?_
    refine YJ rfl rfl to_map rfl hb1 rfl (fun w2 hb2 hg2 hs2 => ?_)
    have hc2 := Chg.grown hg2
    have hne : ∀ j : Nat, (fun j => j = tb) j → j ≠ w.heap.size := fun j hj => by have : j = tb := hj; omega
    obtain ⟨w3, hrun, m', hb3, ht3, hc3⟩ := upd w2 w.heap.size [] hb2 h3 (hnew.keep hc2 (fun e => by have : w.heap.size = tb := e; omega) (fun e => h4 e.symm) (by omega)) (hv1.chg hc2 (fun e => h4 e.symm)) (by omega) ((hal.wide (fun _ h => h.elim)).trans (hc2.wide (fun j hj => .inl hj))) rfl
    refine Ym (Yj (Yd ?_))
    refine wt rfl rfl ?_
    refine wt rfl rfl ?_
    refine wt rfl rfl ?_
    refine Yv rfl to_map rfl hb2 rfl ?_
    refine wt rfl rfl ?_
    refine wt rfl rfl ?_
    refine wl_mapUpd rfl rfl rfl hrun ?_
    exact Ym (Jl rfl ⟨rfl, m', hb3, ht3, hc3⟩)
  · obtain ⟨w3, hrun, m', hb3, ht3, hc3⟩ := upd w r u hb hr htm hv (by omega) (Chg.refl _ _) rfl
    refine Yk (Yk (Yd ?_))
    refine wt rfl rfl ?_
    refine wt rfl rfl ?_
    refine wt rfl rfl ?_
    refine Yv rfl to_map rfl hb rfl ?_
    refine wl_mapNil rfl (by kernel_rfl) rfl ?_
    refine Ym (Yj (YE rfl rfl (Yi (Yj (Yd ?_)))))
    refine wt rfl rfl ?_
    refine wt rfl rfl ?_
    refine wt rfl rfl ?_
    refine Yv rfl to_map rfl hb rfl ?_
    refine wt rfl rfl ?_
    refine wt rfl rfl ?_
    refine wl_mapUpd rfl rfl rfl hrun ?_
    exact Ym (Jl rfl ⟨rfl, m', hb3, ht3, hc3⟩)
end Go.Proofs.YtmihblfjhoblmaaGreatDoor.Rdk

/- The package's functions that append: what each adds to the bytes that the call owns. -/
namespace Go.Proofs.YtmihblfjhoblmaaGreatDoor
open Go Go.RowKit

/-- The function F, called with a slice that the call owns and the arguments vs, adds the bytes ys; 'pre' is what must hold of the world. -/
def AppW (F : FuncId) (vs : List Value) (pre : World → Nat → Prop) (ys : List UInt8) : Prop :=
  ∀ (d : Value) (w : World) (B : Nat) (xs : List UInt8), pre w B → Own w B 5 d xs → B ≤ w.heap.size → xs.length + ys.length ≤ lim →
    Calls Tryz.prog F (d :: vs).toArray w fun e w' => ∃ d', e = .returned d' ∧ Own w' B 5 d' (xs ++ ys) ∧ Grew w w' d d'
def App (F : FuncId) (vs : List Value) (ys : List UInt8) : Prop := AppW F vs (fun _ _ => True) ys

theorem u32_bytes (u : Int) : [Value.int .u8 (IntKind.u8.wrap (u.fdiv (2 ^ (min (24 : Int).toNat IntKind.u32.bits)))), .int .u8 (IntKind.u8.wrap (u.fdiv (2 ^ (min (16 : Int).toNat IntKind.u32.bits)))), .int .u8 (IntKind.u8.wrap (u.fdiv (2 ^ (min (8 : Int).toNat IntKind.u32.bits)))), .int .u8 (IntKind.u8.wrap u)] = bv (be 4 u) := by
  simp only [wrap_u8, be, bv, List.map_cons, List.map_nil]
  simp [IntKind.bits, Int.fdiv_eq_ediv_of_nonneg]
theorem u16_bytes (u : Int) : [Value.int .u8 (IntKind.u8.wrap (u.fdiv (2 ^ (min (8 : Int).toNat IntKind.u16.bits)))), .int .u8 (IntKind.u8.wrap u)] = bv (be 2 u) := by
  simp only [wrap_u8, be, bv, List.map_cons, List.map_nil]
  simp [IntKind.bits, Int.fdiv_eq_ediv_of_nonneg]
section
set_option maxRecDepth 100000
theorem appendUint32 (u : Int) : App 74 [.int .u32 u] (be 4 u) := by
  intro d w B xs _ hown hB hlim
  refine enter Tryz.func74 rfl Tryz.ntmps74 rfl ?_
  refine Yk (Yd (YA rfl rfl (Ym (Yj ?_))))
  refine Yk (Yd ?_)
  repeat (first
    | refine Xw rfl rfl ?_
    | refine UI rfl rfl rfl rfl ?_
    | refine YB .u8 rfl (by kernel_rfl) (by kernel_rfl) rfl rfl ?_)
  refine Xq (by kernel_rfl) rfl (u32_bytes u) rfl rfl rfl rfl rfl hown hB hlim (fun d' w' ho hg => ?_)
  refine YA rfl rfl (Ym (Yj ?_))
  exact Yn (Yt rfl rfl ⟨d', rfl, ho, hg⟩)
theorem Yc6 (u : Int) : App 73 [.int .u16 u] (be 2 u) := by
  intro d w B xs _ hown hB hlim
  refine enter Tryz.func73 rfl Tryz.ntmps73 rfl ?_
  refine Yk (Yd (YA rfl rfl (Ym (Yj ?_))))
  refine Yk (Yd ?_)
  repeat (first
    | refine Xw rfl rfl ?_
    | refine UI rfl rfl rfl rfl ?_
    | refine YB .u8 rfl (by kernel_rfl) (by kernel_rfl) rfl rfl ?_)
  refine Xq (by kernel_rfl) rfl (u16_bytes u) rfl rfl rfl rfl rfl hown hB hlim (fun d' w' ho hg => ?_)
  refine YA rfl rfl (Ym (Yj ?_))
  exact Yn (Yt rfl rfl ⟨d', rfl, ho, hg⟩)
theorem Jv (u : Int) : App 65 [.int .i32 u] (be 4 u) := by
  intro d w B xs _ hown hB hlim
  refine enter Tryz.func65 rfl Tryz.ntmps65 rfl ?_
  refine Yk (Yd (YA rfl rfl (Ym (Yj ?_))))
  refine Yk (Yd ?_)
  repeat (first
    | refine Xw rfl rfl ?_
    | refine YB .u32 rfl (by kernel_rfl) (by kernel_rfl) rfl rfl ?_)
  have hb : be 4 (IntKind.u32.wrap u) = be 4 u := by rw [IntKind.wrap_u32]; exact be_mod 4 32 u (by omega)
  refine Yu rfl (by kernel_rfl) rfl ((appendUint32 (IntKind.u32.wrap u) d w B xs trivial hown hB (by rw [hb]; exact hlim)).mono ?_)
  rintro e w' ⟨d', rfl, ho, hg⟩
  rw [hb] at ho
  refine ⟨d', rfl, YA rfl rfl (Ym (Yj ?_))⟩
  exact Yn (Yt rfl rfl ⟨d', rfl, ho, hg⟩)
end
end Go.Proofs.YtmihblfjhoblmaaGreatDoor

/- How many groups of seven bits a number has, and the function that appends it so. -/

namespace Go.Proofs.YtmihblfjhoblmaaGreatDoor
open Go Go.RowKit

def tabOk (s : ByteArray) (n : Nat) (f : Nat → Nat → Bool) : Bool := (List.range n).all fun i => match s.data[i]? with | some c => f i c.toNat | none => false
section
variable {P : Program} {ops : Array Oper} {Q : Exit → Act → World → Prop} {N : Nat} {rest : List Oper} {L : Sl} {w : World} {d : Nat} {ty : TypeId} {pos : String} {aft : Array Edge}
theorem wl_tab {x y : Operand} {t : TypeId} {s : ByteArray} {kk : IntKind} {m : Int} (i n : Nat) (f : Nat → Nat → Bool) (hx : ev L x = some (.string s)) (hy : ev L y = some (.int kk m)) (ht : (match P.underlying t with | some .string => true | _ => false) = true) (hd : Nat.blt d N = true)
    (hm : m = (i : Int)) (hi : i < n) (hs : tabOk s n f = true) (h : ∀ c : Nat, f i c = true → WL rest P ops Q N ((d, .int .u8 (c : Int)) :: L) w) :
    WL (⟨some d, .index t x y, ty, pos, aft, none⟩ :: rest) P ops Q N L w := by
  unfold tabOk at hs
  have h1 := List.all_eq_true.1 hs i (List.mem_range.2 hi)
  cases hc : s.data[i]? with
  | none => rw [hc] at h1; cases h1
  | some c => rw [hc] at h1; exact wl_index hx hy ht hd hm hc (h c.toNat h1)
end
/-- c is the number of bits of i. -/
def Js (i c : Nat) : Bool := decide (i < 2 ^ c) && decide (c = 0 ∨ 2 ^ (c - 1) ≤ i) && decide (c ≤ 8)
def UO (i c : Nat) : Bool := if i ≤ 7 then c == 1 else if i ≤ 14 then c == 2 else if i ≤ 21 then c == 3 else if i ≤ 28 then c == 4 else c == 5
theorem bits_up (x c s : Nat) (u : Nat) (h : Js x c = true) (hx : x = u / 2 ^ s) (hp : 0 < x) : u < 2 ^ (c + s) ∧ 2 ^ (c + s - 1) ≤ u ∧ 0 < c ∧ c ≤ 8 := by
  simp only [Js, Bool.and_eq_true, decide_eq_true_eq] at h
  obtain ⟨⟨h1, h2⟩, h3⟩ := h
  have hc : 0 < c := by rcases Nat.eq_zero_or_pos c with rfl | h; · simp at h1; omega
                        · exact h
  have hs := Nat.two_pow_pos s
  refine ⟨?_, ?_, hc, h3⟩
  · rw [Nat.pow_add]
    exact (Nat.div_lt_iff_lt_mul hs).1 (hx ▸ h1)
  · have h4 : 2 ^ (c - 1) ≤ u / 2 ^ s := by rw [← hx]; omega
    have := (Nat.le_div_iff_mul_le hs).1 h4
    rw [← Nat.pow_add] at this
    rw [show c + s - 1 = c - 1 + s from by omega]; exact this

section
set_option maxRecDepth 100000
/-- The bits of a number: r of them. -/
def BitsOf (u r : Nat) : Prop := u < 2 ^ r ∧ (r = 0 ∨ 2 ^ (r - 1) ≤ u) ∧ r ≤ 32
theorem len32 (u : Nat) (hu : u < 4294967296) (w : World) : Calls Tryz.prog 108 #[.int .u32 (u : Int)] w fun e w' => (∃ r : Nat, e = .returned (.int .i64 (r : Int)) ∧ BitsOf u r) ∧ w' = w := by
  refine enter (vs := [.int .u32 (u : Int)]) Tryz.func108 rfl Tryz.ntmps108 rfl ?_
  refine Yk (Yd (YA rfl rfl (Ym (Yj ?_))))
  refine Yk (Yk (Yd ?_))
  repeat first|((with_reducible apply ws);exact rfl;exact rfl)|((with_reducible apply Yo);exact rfl;exact rfl;exact rfl)|((with_reducible apply Yq);exact rfl;exact rfl;exact rfl;exact rfl)|((with_reducible apply Yp);exact rfl;exact rfl;exact rfl)
  refine Ym (Yj ?_)
  by_cases h16 : 65536 ≤ u
  · refine Yz rfl (by simp; omega) ?_
    refine Yk (Yd ?_)
    refine Xw rfl rfl (UI rfl rfl rfl (Yb0 u 16 32 (by omega)) (YA rfl rfl (Ym (Yj (Yd (YA rfl rfl (Ym (Yj ?_))))))))
    refine Yk (Yk (Yd ?_))
    repeat first|((with_reducible apply ws);exact rfl;exact rfl)|((with_reducible apply Yo);exact rfl;exact rfl;exact rfl)|((with_reducible apply Yq);exact rfl;exact rfl;exact rfl;exact rfl)|((with_reducible apply Yp);exact rfl;exact rfl;exact rfl)
    refine Ym (Yj ?_)
    by_cases h24 : 256 ≤ u / 2 ^ 16
    · refine Yz rfl (by simp; omega) ?_
      refine Yk (Yd ?_)
      refine Xw rfl rfl (UI rfl rfl rfl (Yb0 (u / 2 ^ 16) 8 32 (by omega)) (YA rfl rfl (Ym (Yj (Yd (Xw rfl rfl (Xm rfl rfl rfl (r := 24) (by decide) (YA rfl rfl (Ym (Yj ?_))))))))))
      refine Yk (Yd ?_)
      refine Xw rfl rfl (Xw rfl rfl (YB .u8 rfl (by kernel_rfl) (by kernel_rfl) rfl (r := ((u / 2 ^ 16 / 2 ^ 8 : Nat) : Int)) (by rw [IntKind.wrap_u8]; omega) ?_))
      refine wl_tab (u / 2 ^ 16 / 2 ^ 8) 256 Js rfl rfl (by kernel_rfl) rfl rfl (by omega) (by kernel_rfl) (fun c hc => ?_)
      obtain ⟨b1, b2, b3, b4⟩ := bits_up _ c 24 u hc (by rw [Nat.div_div_eq_div_mul]) (by omega)
      refine YB .i64 rfl (by kernel_rfl) (by kernel_rfl) rfl (r := (c : Int)) (by rw [IntKind.wrap_i64]; omega) ?_
      refine Xm rfl rfl rfl (r := ((c + 24 : Nat) : Int)) (by rw [IntKind.wrap_i64]; omega) (YA rfl rfl (Ym (Yj ?_)))
      exact Yn (Yt rfl rfl ⟨⟨_, rfl, b1, .inr b2, by omega⟩, rfl⟩)
    · refine YE rfl (by simp; omega) (Yi (Yj ?_))
      refine Yk (Yd ?_)
      refine Xw rfl rfl (Xw rfl rfl (YB .u8 rfl (by kernel_rfl) (by kernel_rfl) rfl (r := ((u / 2 ^ 16 : Nat) : Int)) (by rw [IntKind.wrap_u8]; omega) ?_))
      refine wl_tab (u / 2 ^ 16) 256 Js rfl rfl (by kernel_rfl) rfl rfl (by omega) (by kernel_rfl) (fun c hc => ?_)
      obtain ⟨b1, b2, b3, b4⟩ := bits_up _ c 16 u hc rfl (by omega)
      refine YB .i64 rfl (by kernel_rfl) (by kernel_rfl) rfl (r := (c : Int)) (by rw [IntKind.wrap_i64]; omega) ?_
      refine Xm rfl rfl rfl (r := ((c + 16 : Nat) : Int)) (by rw [IntKind.wrap_i64]; omega) (YA rfl rfl (Ym (Yj ?_)))
      exact Yn (Yt rfl rfl ⟨⟨_, rfl, b1, .inr b2, by omega⟩, rfl⟩)
  · refine YE rfl (by simp; omega) (Yi (Yj ?_))
    refine Yk (Yk (Yd ?_))
    repeat first|((with_reducible apply ws);exact rfl;exact rfl)|((with_reducible apply Yo);exact rfl;exact rfl;exact rfl)|((with_reducible apply Yq);exact rfl;exact rfl;exact rfl;exact rfl)|((with_reducible apply Yp);exact rfl;exact rfl;exact rfl)
    refine Ym (Yj ?_)
    by_cases h8 : 256 ≤ u
    · refine Yz rfl (by simp; omega) ?_
      refine Yk (Yd ?_)
      refine Xw rfl rfl (UI rfl rfl rfl (Yb0 u 8 32 (by omega)) (YA rfl rfl (Ym (Yj (Yd (Xw rfl rfl (Xm rfl rfl rfl (r := 8) (by decide) (YA rfl rfl (Ym (Yj ?_))))))))))
      refine Yk (Yd ?_)
      refine Xw rfl rfl (Xw rfl rfl (YB .u8 rfl (by kernel_rfl) (by kernel_rfl) rfl (r := ((u / 2 ^ 8 : Nat) : Int)) (by rw [IntKind.wrap_u8]; omega) ?_))
      refine wl_tab (u / 2 ^ 8) 256 Js rfl rfl (by kernel_rfl) rfl rfl (by omega) (by kernel_rfl) (fun c hc => ?_)
      obtain ⟨b1, b2, b3, b4⟩ := bits_up _ c 8 u hc rfl (by omega)
      refine YB .i64 rfl (by kernel_rfl) (by kernel_rfl) rfl (r := (c : Int)) (by rw [IntKind.wrap_i64]; omega) ?_
      refine Xm rfl rfl rfl (r := ((c + 8 : Nat) : Int)) (by rw [IntKind.wrap_i64]; omega) (YA rfl rfl (Ym (Yj ?_)))
      exact Yn (Yt rfl rfl ⟨⟨_, rfl, b1, .inr b2, by omega⟩, rfl⟩)
    · refine YE rfl (by simp; omega) (Yi (Yj ?_))
      refine Yk (Yd ?_)
      refine Xw rfl rfl (Xw rfl rfl (YB .u8 rfl (by kernel_rfl) (by kernel_rfl) rfl (r := (u : Int)) (by rw [IntKind.wrap_u8]; omega) ?_))
      refine wl_tab u 256 Js rfl rfl (by kernel_rfl) rfl rfl (by omega) (by kernel_rfl) (fun c hc => ?_)
      simp only [Js, Bool.and_eq_true, decide_eq_true_eq] at hc
      obtain ⟨⟨b1, b2⟩, b3⟩ := hc
      refine YB .i64 rfl (by kernel_rfl) (by kernel_rfl) rfl (r := (c : Int)) (by rw [IntKind.wrap_i64]; omega) ?_
      refine Xm rfl rfl rfl (r := (c : Int)) (by rw [IntKind.wrap_i64]; omega) (YA rfl rfl (Ym (Yj ?_)))
      exact Yn (Yt rfl rfl ⟨⟨_, rfl, b1, b2, by omega⟩, rfl⟩)
theorem uvarintLen (u : Nat) (hu : u < 4294967296) (w : World) : Calls Tryz.prog 105 #[.int .u32 (u : Int)] w fun e w' => (∃ r c : Nat, e = .returned (.int .i64 (c : Int)) ∧ BitsOf u r ∧ UO r c = true) ∧ w' = w := by
  refine enter (vs := [.int .u32 (u : Int)]) Tryz.func105 rfl Tryz.ntmps105 rfl ?_
  refine Yk (Yd (YA rfl rfl (Ym (Yj ?_))))
  refine Yk (Yd ?_)
  refine Xw rfl rfl (Yu rfl (by kernel_rfl) rfl ((len32 u hu w).mono ?_))
  rintro e w' ⟨⟨r, rfl, hr⟩, rfl⟩
  have hr32 := hr.2.2
  refine ⟨_, rfl, ?_⟩
  refine YB .u8 rfl (by kernel_rfl) (by kernel_rfl) rfl (r := (r : Int)) (by rw [IntKind.wrap_u8]; omega) ?_
  refine wl_tab r 33 UO rfl rfl (by kernel_rfl) rfl rfl (by omega) (by kernel_rfl) (fun c hc => ?_)
  have hc5 : c ≤ 5 := by unfold UO at hc; split at hc <;> (try split at hc) <;> (try split at hc) <;> (try split at hc) <;> simp at hc <;> omega
  refine YB .i64 rfl (by kernel_rfl) (by kernel_rfl) rfl (r := (c : Int)) (by rw [IntKind.wrap_i64]; omega) ?_
  refine YA rfl rfl (Ym (Yj ?_))
  exact Yn (Yt rfl rfl ⟨⟨r, c, rfl, hr, hc⟩, rfl⟩)
end
end Go.Proofs.YtmihblfjhoblmaaGreatDoor

/- The package's functions that append: numbers in groups, texts, octets, counts. -/
namespace Go.Proofs.YtmihblfjhoblmaaGreatDoor
open Go Go.RowKit

section
set_option maxRecDepth 100000
theorem ends (u r c : Nat) (h : BitsOf u r) (g : UO r c = true) :
    (c = 1 ∧ u < 128) ∨ (c = 2 ∧ 128 ≤ u ∧ u < 16384) ∨ (c = 3 ∧ 16384 ≤ u ∧ u < 2097152) ∨ (c = 4 ∧ 2097152 ≤ u ∧ u < 268435456) ∨ (c = 5 ∧ 268435456 ≤ u ∧ u < 4294967296) := by
  obtain ⟨h1, h2, h3⟩ := h
  have up : ∀ a b : Nat, a ≤ b → 2 ^ a ≤ 2 ^ b := fun a b h => Nat.pow_le_pow_right (by decide) h
  unfold UO at g
  split at g
  · rename_i hr; simp at g; have := up r 7 hr; exact .inl ⟨g, by omega⟩
  · split at g
    · rename_i h0 hr; simp at g; have := up r 14 hr; have := up 7 (r - 1) (by omega); exact .inr (.inl ⟨g, by omega, by omega⟩)
    · split at g
      · rename_i h0 hr; simp at g; have := up r 21 hr; have := up 14 (r - 1) (by omega); exact .inr (.inr (.inl ⟨g, by omega, by omega⟩))
      · split at g
        · rename_i h0 hr; simp at g; have := up r 28 hr; have := up 21 (r - 1) (by omega); exact .inr (.inr (.inr (.inl ⟨g, by omega, by omega⟩)))
        · rename_i h0; simp at g; have := up r 32 h3; have := up 28 (r - 1) (by omega); exact .inr (.inr (.inr (.inr ⟨g, by omega, by omega⟩)))

theorem uvar1_bytes (u : Nat) (h : u < 128) : [Value.int .u8 (IntKind.u8.wrap (u : Int))] = bv (uvar u) := by rw [VX h, Yd7]; rfl
theorem JE {a b : Value} {r s : List Value} (h : a = b) (k : r = s) : a :: r = b :: s := by rw [h, k]
theorem uvar2_bytes (u : Nat) (h1 : 128 ≤ u) (h2 : u < 16384) : [Value.int .u8 (IntKind.u8.wrap (bits .or .u32 (bits .and .u32 (u : Int) 127) 128)), .int .u8 (IntKind.u8.wrap ((u : Int).fdiv (2 ^ (min (7 : Int).toNat IntKind.u32.bits))))] = bv (uvar u) := by
  rw [uvar2 h1 h2]; exact JE (grp0 u (by omega)) (JE (grpLast u 7 (by omega)) rfl)
theorem uvar3_bytes (u : Nat) (h1 : 16384 ≤ u) (h2 : u < 2097152) : [Value.int .u8 (IntKind.u8.wrap (bits .or .u32 (bits .and .u32 (u : Int) 127) 128)), .int .u8 (IntKind.u8.wrap (bits .or .u32 (bits .and .u32 ((u : Int).fdiv (2 ^ (min (7 : Int).toNat IntKind.u32.bits))) 127) 128)),
    .int .u8 (IntKind.u8.wrap ((u : Int).fdiv (2 ^ (min (14 : Int).toNat IntKind.u32.bits))))] = bv (uvar u) := by
  rw [uvar3 h1 h2]; exact JE (grp0 u (by omega)) (JE (grp u 7 (by omega) (by omega)) (JE (grpLast u 14 (by omega)) rfl))
theorem uvar4_bytes (u : Nat) (h1 : 2097152 ≤ u) (h2 : u < 268435456) : [Value.int .u8 (IntKind.u8.wrap (bits .or .u32 (bits .and .u32 (u : Int) 127) 128)), .int .u8 (IntKind.u8.wrap (bits .or .u32 (bits .and .u32 ((u : Int).fdiv (2 ^ (min (7 : Int).toNat IntKind.u32.bits))) 127) 128)),
    .int .u8 (IntKind.u8.wrap (bits .or .u32 (bits .and .u32 ((u : Int).fdiv (2 ^ (min (14 : Int).toNat IntKind.u32.bits))) 127) 128)), .int .u8 (IntKind.u8.wrap ((u : Int).fdiv (2 ^ (min (21 : Int).toNat IntKind.u32.bits))))] = bv (uvar u) := by
  rw [uvar4 h1 h2]; exact JE (grp0 u (by omega)) (JE (grp u 7 (by omega) (by omega)) (JE (grp u 14 (by omega) (by omega)) (JE (grpLast u 21 (by omega)) rfl)))
theorem uvar5_bytes (u : Nat) (h1 : 268435456 ≤ u) (h2 : u < 4294967296) : [Value.int .u8 (IntKind.u8.wrap (bits .or .u32 (bits .and .u32 (u : Int) 127) 128)), .int .u8 (IntKind.u8.wrap (bits .or .u32 (bits .and .u32 ((u : Int).fdiv (2 ^ (min (7 : Int).toNat IntKind.u32.bits))) 127) 128)),
    .int .u8 (IntKind.u8.wrap (bits .or .u32 (bits .and .u32 ((u : Int).fdiv (2 ^ (min (14 : Int).toNat IntKind.u32.bits))) 127) 128)), .int .u8 (IntKind.u8.wrap (bits .or .u32 (bits .and .u32 ((u : Int).fdiv (2 ^ (min (21 : Int).toNat IntKind.u32.bits))) 127) 128)), .int .u8 (IntKind.u8.wrap ((u : Int).fdiv (2 ^ (min (28 : Int).toNat IntKind.u32.bits))))] = bv (uvar u) := by
  rw [uvar5 h1 h2]; exact JE (grp0 u (by omega)) (JE (grp u 7 (by omega) (by omega)) (JE (grp u 14 (by omega) (by omega)) (JE (grp u 21 (by omega) (by omega)) (JE (grpLast u 28 (by omega)) rfl))))
theorem uvar_len {u c : Nat} (h : (c = 1 ∧ u < 128) ∨ (c = 2 ∧ 128 ≤ u ∧ u < 16384) ∨ (c = 3 ∧ 16384 ≤ u ∧ u < 2097152) ∨ (c = 4 ∧ 2097152 ≤ u ∧ u < 268435456) ∨ (c = 5 ∧ 268435456 ≤ u ∧ u < 4294967296)) : (uvar u).length = c := by
  rcases h with ⟨rfl, h⟩ | ⟨rfl, h, h'⟩ | ⟨rfl, h, h'⟩ | ⟨rfl, h, h'⟩ | ⟨rfl, h, h'⟩
  · rw [VX h]; rfl
  · rw [uvar2 h h']; rfl
  · rw [uvar3 h h']; rfl
  · rw [uvar4 h h']; rfl
  · rw [uvar5 h h']; rfl

theorem XX (u : Nat) (hu : u < 4294967296) : App 100 [.int .u32 (u : Int)] (uvar u) := by
  intro d w B xs _ hown hB hlim
  refine enter Tryz.func100 rfl Tryz.ntmps100 rfl ?_
  repeat first|(with_reducible first|apply Yk|apply Yd|apply Ym|apply Yj|apply Yh|apply Yi|apply Yn|apply Yl|apply Ye|apply Yg|apply Yr|apply Yc|apply Yf|apply Yb|apply Ya)|((with_reducible apply ws);exact rfl;exact rfl)|((with_reducible apply Yo);exact rfl;exact rfl;exact rfl)|((with_reducible apply Yq);exact rfl;exact rfl;exact rfl;exact rfl)|((with_reducible apply Yp);exact rfl;exact rfl;exact rfl)
  refine Yu rfl (by kernel_rfl) rfl ((uvarintLen u hu w).mono ?_)
  rintro e w' ⟨⟨r, c, rfl, hr, hc⟩, rfl⟩
  have hend := ends u r c hr hc
  have hlen := uvar_len hend
  refine ⟨_, rfl, ?_⟩
  rcases hend with ⟨rfl, h⟩ | ⟨rfl, h, h'⟩ | ⟨rfl, h, h'⟩ | ⟨rfl, h, h'⟩ | ⟨rfl, h, h'⟩
  · repeat first|(with_reducible first|apply Yk|apply Yd|apply Ym|apply Yj|apply Yh|apply Yi|apply Yn|apply Yl|apply Ye|apply Yg|apply Yr|apply Yc|apply Yf|apply Yb|apply Ya)|((with_reducible apply ws);exact rfl;exact rfl)|((with_reducible apply Yo);exact rfl;exact rfl;exact rfl)|((with_reducible apply Yq);exact rfl;exact rfl;exact rfl;exact rfl)|((with_reducible apply Yp);exact rfl;exact rfl;exact rfl)
    refine YE rfl (by decide) ?_
    repeat first|(with_reducible first|apply Yk|apply Yd|apply Ym|apply Yj|apply Yh|apply Yi|apply Yn|apply Yl|apply Ye|apply Yg|apply Yr|apply Yc|apply Yf|apply Yb|apply Ya)|((with_reducible apply ws);exact rfl;exact rfl)|((with_reducible apply Yo);exact rfl;exact rfl;exact rfl)|((with_reducible apply Yq);exact rfl;exact rfl;exact rfl;exact rfl)|((with_reducible apply Yp);exact rfl;exact rfl;exact rfl)
    refine YE rfl (by decide) ?_
    repeat first|(with_reducible first|apply Yk|apply Yd|apply Ym|apply Yj|apply Yh|apply Yi|apply Yn|apply Yl|apply Ye|apply Yg|apply Yr|apply Yc|apply Yf|apply Yb|apply Ya)|((with_reducible apply ws);exact rfl;exact rfl)|((with_reducible apply Yo);exact rfl;exact rfl;exact rfl)|((with_reducible apply Yq);exact rfl;exact rfl;exact rfl;exact rfl)|((with_reducible apply Yp);exact rfl;exact rfl;exact rfl)
    refine YE rfl (by decide) ?_
    repeat first|(with_reducible first|apply Yk|apply Yd|apply Ym|apply Yj|apply Yh|apply Yi|apply Yn|apply Yl|apply Ye|apply Yg|apply Yr|apply Yc|apply Yf|apply Yb|apply Ya)|((with_reducible apply ws);exact rfl;exact rfl)|((with_reducible apply Yo);exact rfl;exact rfl;exact rfl)|((with_reducible apply Yq);exact rfl;exact rfl;exact rfl;exact rfl)|((with_reducible apply Yp);exact rfl;exact rfl;exact rfl)
    refine YE rfl (by decide) ?_
    repeat first|(with_reducible first|apply Yk|apply Yd|apply Ym|apply Yj|apply Yh|apply Yi|apply Yn|apply Yl|apply Ye|apply Yg|apply Yr|apply Yc|apply Yf|apply Yb|apply Ya)|((with_reducible apply ws);exact rfl;exact rfl)|((with_reducible apply Yo);exact rfl;exact rfl;exact rfl)|((with_reducible apply Yq);exact rfl;exact rfl;exact rfl;exact rfl)|((with_reducible apply Yp);exact rfl;exact rfl;exact rfl)
    refine Yz rfl (by decide) ?_
    repeat first|(with_reducible first|apply Yk|apply Yd|apply Ym|apply Yj|apply Yh|apply Yi|apply Yn|apply Yl|apply Ye|apply Yg|apply Yr|apply Yc|apply Yf|apply Yb|apply Ya)|((with_reducible apply ws);exact rfl;exact rfl)|((with_reducible apply Yo);exact rfl;exact rfl;exact rfl)|((with_reducible apply Yq);exact rfl;exact rfl;exact rfl;exact rfl)|((with_reducible apply Yp);exact rfl;exact rfl;exact rfl)|((with_reducible first|apply Vo|apply Yk5|apply UI);exact rfl;exact rfl;exact rfl;exact rfl)|((with_reducible apply YB .u8);exact rfl;exact ti_u32;exact ti_u8;exact rfl;exact rfl)
    refine Xq (by kernel_rfl) rfl (uvar1_bytes u h) (by rw [hlen]; rfl) rfl rfl rfl rfl hown hB hlim (fun d' w' ho hg => ?_)
    repeat first|(with_reducible first|apply Yk|apply Yd|apply Ym|apply Yj|apply Yh|apply Yi|apply Yn|apply Yl|apply Ye|apply Yg|apply Yr|apply Yc|apply Yf|apply Yb|apply Ya)|((with_reducible apply ws);exact rfl;exact rfl)|((with_reducible apply Yo);exact rfl;exact rfl;exact rfl)|((with_reducible apply Yq);exact rfl;exact rfl;exact rfl;exact rfl)|((with_reducible apply Yp);exact rfl;exact rfl;exact rfl)
    exact Yt rfl rfl ⟨d', rfl, ho, hg⟩
  · repeat first|(with_reducible first|apply Yk|apply Yd|apply Ym|apply Yj|apply Yh|apply Yi|apply Yn|apply Yl|apply Ye|apply Yg|apply Yr|apply Yc|apply Yf|apply Yb|apply Ya)|((with_reducible apply ws);exact rfl;exact rfl)|((with_reducible apply Yo);exact rfl;exact rfl;exact rfl)|((with_reducible apply Yq);exact rfl;exact rfl;exact rfl;exact rfl)|((with_reducible apply Yp);exact rfl;exact rfl;exact rfl)
    refine YE rfl (by decide) ?_
    repeat first|(with_reducible first|apply Yk|apply Yd|apply Ym|apply Yj|apply Yh|apply Yi|apply Yn|apply Yl|apply Ye|apply Yg|apply Yr|apply Yc|apply Yf|apply Yb|apply Ya)|((with_reducible apply ws);exact rfl;exact rfl)|((with_reducible apply Yo);exact rfl;exact rfl;exact rfl)|((with_reducible apply Yq);exact rfl;exact rfl;exact rfl;exact rfl)|((with_reducible apply Yp);exact rfl;exact rfl;exact rfl)
    refine YE rfl (by decide) ?_
    repeat first|(with_reducible first|apply Yk|apply Yd|apply Ym|apply Yj|apply Yh|apply Yi|apply Yn|apply Yl|apply Ye|apply Yg|apply Yr|apply Yc|apply Yf|apply Yb|apply Ya)|((with_reducible apply ws);exact rfl;exact rfl)|((with_reducible apply Yo);exact rfl;exact rfl;exact rfl)|((with_reducible apply Yq);exact rfl;exact rfl;exact rfl;exact rfl)|((with_reducible apply Yp);exact rfl;exact rfl;exact rfl)
    refine YE rfl (by decide) ?_
    repeat first|(with_reducible first|apply Yk|apply Yd|apply Ym|apply Yj|apply Yh|apply Yi|apply Yn|apply Yl|apply Ye|apply Yg|apply Yr|apply Yc|apply Yf|apply Yb|apply Ya)|((with_reducible apply ws);exact rfl;exact rfl)|((with_reducible apply Yo);exact rfl;exact rfl;exact rfl)|((with_reducible apply Yq);exact rfl;exact rfl;exact rfl;exact rfl)|((with_reducible apply Yp);exact rfl;exact rfl;exact rfl)
    refine Yz rfl (by decide) ?_
    repeat first|(with_reducible first|apply Yk|apply Yd|apply Ym|apply Yj|apply Yh|apply Yi|apply Yn|apply Yl|apply Ye|apply Yg|apply Yr|apply Yc|apply Yf|apply Yb|apply Ya)|((with_reducible apply ws);exact rfl;exact rfl)|((with_reducible apply Yo);exact rfl;exact rfl;exact rfl)|((with_reducible apply Yq);exact rfl;exact rfl;exact rfl;exact rfl)|((with_reducible apply Yp);exact rfl;exact rfl;exact rfl)|((with_reducible first|apply Vo|apply Yk5|apply UI);exact rfl;exact rfl;exact rfl;exact rfl)|((with_reducible apply YB .u8);exact rfl;exact ti_u32;exact ti_u8;exact rfl;exact rfl)
    refine Xq (by kernel_rfl) rfl (uvar2_bytes u h h') (by rw [hlen]; rfl) rfl rfl rfl rfl hown hB hlim (fun d' w' ho hg => ?_)
    repeat first|(with_reducible first|apply Yk|apply Yd|apply Ym|apply Yj|apply Yh|apply Yi|apply Yn|apply Yl|apply Ye|apply Yg|apply Yr|apply Yc|apply Yf|apply Yb|apply Ya)|((with_reducible apply ws);exact rfl;exact rfl)|((with_reducible apply Yo);exact rfl;exact rfl;exact rfl)|((with_reducible apply Yq);exact rfl;exact rfl;exact rfl;exact rfl)|((with_reducible apply Yp);exact rfl;exact rfl;exact rfl)
    exact Yt rfl rfl ⟨d', rfl, ho, hg⟩
  · repeat first|(with_reducible first|apply Yk|apply Yd|apply Ym|apply Yj|apply Yh|apply Yi|apply Yn|apply Yl|apply Ye|apply Yg|apply Yr|apply Yc|apply Yf|apply Yb|apply Ya)|((with_reducible apply ws);exact rfl;exact rfl)|((with_reducible apply Yo);exact rfl;exact rfl;exact rfl)|((with_reducible apply Yq);exact rfl;exact rfl;exact rfl;exact rfl)|((with_reducible apply Yp);exact rfl;exact rfl;exact rfl)
    refine YE rfl (by decide) ?_
    repeat first|(with_reducible first|apply Yk|apply Yd|apply Ym|apply Yj|apply Yh|apply Yi|apply Yn|apply Yl|apply Ye|apply Yg|apply Yr|apply Yc|apply Yf|apply Yb|apply Ya)|((with_reducible apply ws);exact rfl;exact rfl)|((with_reducible apply Yo);exact rfl;exact rfl;exact rfl)|((with_reducible apply Yq);exact rfl;exact rfl;exact rfl;exact rfl)|((with_reducible apply Yp);exact rfl;exact rfl;exact rfl)
    refine YE rfl (by decide) ?_
    repeat first|(with_reducible first|apply Yk|apply Yd|apply Ym|apply Yj|apply Yh|apply Yi|apply Yn|apply Yl|apply Ye|apply Yg|apply Yr|apply Yc|apply Yf|apply Yb|apply Ya)|((with_reducible apply ws);exact rfl;exact rfl)|((with_reducible apply Yo);exact rfl;exact rfl;exact rfl)|((with_reducible apply Yq);exact rfl;exact rfl;exact rfl;exact rfl)|((with_reducible apply Yp);exact rfl;exact rfl;exact rfl)
    refine Yz rfl (by decide) ?_
    repeat first|(with_reducible first|apply Yk|apply Yd|apply Ym|apply Yj|apply Yh|apply Yi|apply Yn|apply Yl|apply Ye|apply Yg|apply Yr|apply Yc|apply Yf|apply Yb|apply Ya)|((with_reducible apply ws);exact rfl;exact rfl)|((with_reducible apply Yo);exact rfl;exact rfl;exact rfl)|((with_reducible apply Yq);exact rfl;exact rfl;exact rfl;exact rfl)|((with_reducible apply Yp);exact rfl;exact rfl;exact rfl)|((with_reducible first|apply Vo|apply Yk5|apply UI);exact rfl;exact rfl;exact rfl;exact rfl)|((with_reducible apply YB .u8);exact rfl;exact ti_u32;exact ti_u8;exact rfl;exact rfl)
    refine Xq (by kernel_rfl) rfl (uvar3_bytes u h h') (by rw [hlen]; rfl) rfl rfl rfl rfl hown hB hlim (fun d' w' ho hg => ?_)
    repeat first|(with_reducible first|apply Yk|apply Yd|apply Ym|apply Yj|apply Yh|apply Yi|apply Yn|apply Yl|apply Ye|apply Yg|apply Yr|apply Yc|apply Yf|apply Yb|apply Ya)|((with_reducible apply ws);exact rfl;exact rfl)|((with_reducible apply Yo);exact rfl;exact rfl;exact rfl)|((with_reducible apply Yq);exact rfl;exact rfl;exact rfl;exact rfl)|((with_reducible apply Yp);exact rfl;exact rfl;exact rfl)
    exact Yt rfl rfl ⟨d', rfl, ho, hg⟩
  · repeat first|(with_reducible first|apply Yk|apply Yd|apply Ym|apply Yj|apply Yh|apply Yi|apply Yn|apply Yl|apply Ye|apply Yg|apply Yr|apply Yc|apply Yf|apply Yb|apply Ya)|((with_reducible apply ws);exact rfl;exact rfl)|((with_reducible apply Yo);exact rfl;exact rfl;exact rfl)|((with_reducible apply Yq);exact rfl;exact rfl;exact rfl;exact rfl)|((with_reducible apply Yp);exact rfl;exact rfl;exact rfl)
    refine YE rfl (by decide) ?_
    repeat first|(with_reducible first|apply Yk|apply Yd|apply Ym|apply Yj|apply Yh|apply Yi|apply Yn|apply Yl|apply Ye|apply Yg|apply Yr|apply Yc|apply Yf|apply Yb|apply Ya)|((with_reducible apply ws);exact rfl;exact rfl)|((with_reducible apply Yo);exact rfl;exact rfl;exact rfl)|((with_reducible apply Yq);exact rfl;exact rfl;exact rfl;exact rfl)|((with_reducible apply Yp);exact rfl;exact rfl;exact rfl)
    refine Yz rfl (by decide) ?_
    repeat first|(with_reducible first|apply Yk|apply Yd|apply Ym|apply Yj|apply Yh|apply Yi|apply Yn|apply Yl|apply Ye|apply Yg|apply Yr|apply Yc|apply Yf|apply Yb|apply Ya)|((with_reducible apply ws);exact rfl;exact rfl)|((with_reducible apply Yo);exact rfl;exact rfl;exact rfl)|((with_reducible apply Yq);exact rfl;exact rfl;exact rfl;exact rfl)|((with_reducible apply Yp);exact rfl;exact rfl;exact rfl)|((with_reducible first|apply Vo|apply Yk5|apply UI);exact rfl;exact rfl;exact rfl;exact rfl)|((with_reducible apply YB .u8);exact rfl;exact ti_u32;exact ti_u8;exact rfl;exact rfl)
    refine Xq (by kernel_rfl) rfl (uvar4_bytes u h h') (by rw [hlen]; rfl) rfl rfl rfl rfl hown hB hlim (fun d' w' ho hg => ?_)
    repeat first|(with_reducible first|apply Yk|apply Yd|apply Ym|apply Yj|apply Yh|apply Yi|apply Yn|apply Yl|apply Ye|apply Yg|apply Yr|apply Yc|apply Yf|apply Yb|apply Ya)|((with_reducible apply ws);exact rfl;exact rfl)|((with_reducible apply Yo);exact rfl;exact rfl;exact rfl)|((with_reducible apply Yq);exact rfl;exact rfl;exact rfl;exact rfl)|((with_reducible apply Yp);exact rfl;exact rfl;exact rfl)
    exact Yt rfl rfl ⟨d', rfl, ho, hg⟩
  · repeat first|(with_reducible first|apply Yk|apply Yd|apply Ym|apply Yj|apply Yh|apply Yi|apply Yn|apply Yl|apply Ye|apply Yg|apply Yr|apply Yc|apply Yf|apply Yb|apply Ya)|((with_reducible apply ws);exact rfl;exact rfl)|((with_reducible apply Yo);exact rfl;exact rfl;exact rfl)|((with_reducible apply Yq);exact rfl;exact rfl;exact rfl;exact rfl)|((with_reducible apply Yp);exact rfl;exact rfl;exact rfl)
    refine Yz rfl (by decide) ?_
    repeat first|(with_reducible first|apply Yk|apply Yd|apply Ym|apply Yj|apply Yh|apply Yi|apply Yn|apply Yl|apply Ye|apply Yg|apply Yr|apply Yc|apply Yf|apply Yb|apply Ya)|((with_reducible apply ws);exact rfl;exact rfl)|((with_reducible apply Yo);exact rfl;exact rfl;exact rfl)|((with_reducible apply Yq);exact rfl;exact rfl;exact rfl;exact rfl)|((with_reducible apply Yp);exact rfl;exact rfl;exact rfl)|((with_reducible first|apply Vo|apply Yk5|apply UI);exact rfl;exact rfl;exact rfl;exact rfl)|((with_reducible apply YB .u8);exact rfl;exact ti_u32;exact ti_u8;exact rfl;exact rfl)
    refine Xq (by kernel_rfl) rfl (uvar5_bytes u h h') (by rw [hlen]; rfl) rfl rfl rfl rfl hown hB hlim (fun d' w' ho hg => ?_)
    repeat first|(with_reducible first|apply Yk|apply Yd|apply Ym|apply Yj|apply Yh|apply Yi|apply Yn|apply Yl|apply Ye|apply Yg|apply Yr|apply Yc|apply Yf|apply Yb|apply Ya)|((with_reducible apply ws);exact rfl;exact rfl)|((with_reducible apply Yo);exact rfl;exact rfl;exact rfl)|((with_reducible apply Yq);exact rfl;exact rfl;exact rfl;exact rfl)|((with_reducible apply Yp);exact rfl;exact rfl;exact rfl)
    exact Yt rfl rfl ⟨d', rfl, ho, hg⟩
end
end Go.Proofs.YtmihblfjhoblmaaGreatDoor

/- The package's functions that append, more: small numbers, truth values, counts, texts, octets, null. -/
namespace Go.Proofs.YtmihblfjhoblmaaGreatDoor
open Go Go.RowKit

theorem be_length : ∀ (k : Nat) (n : Int), (be k n).length = k
  | 0, _ => rfl
  | k + 1, n => by simp [be, be_length k n]
/-- Octets that lie in blocks below B. -/
def Src (w : World) (B : Nat) (v : Value) (ys : List UInt8) : Prop := Xn w v ys ∧ (ys = [] ∨ ∀ g, v.ownBlock = some g → g < B)
theorem Src.grew {w w' : World} {B u8 : Nat} {v d d' : Value} {xs ys : List UInt8} (h : Src w B v ys) (hg : Grew w w' d d') (ho : Own w B u8 d xs) (hB : B ≤ w.heap.size) : Src w' B v ys := by
  refine ⟨?_, h.2⟩
  rcases h.1 with ⟨a, c, rfl, rfl⟩ | ⟨b, off, c, rfl, hc⟩
  · exact .inl ⟨a, c, rfl, rfl⟩
  · rcases h.2 with rfl | h2
    · exact .inl ⟨_, _, rfl, rfl⟩
    have hb : b < B := h2 b rfl
    exact .inr ⟨b, off, c, rfl, hc.of_block (hg.grown.block b (by omega) (fun e => by have := ho.ge b e.symm; omega))⟩

section
set_option maxRecDepth 100000
theorem VY (i : Int) : App 64 [.int .i16 i] (be 2 i) := by
  intro d w B xs hpre hown hB hlim
  refine enter Tryz.func64 rfl Tryz.ntmps64 rfl ?_
  have hb : be 2 (IntKind.u16.wrap i) = be 2 i := by rw [IntKind.wrap_u16]; exact be_mod 2 16 i (by omega)
  repeat first|(with_reducible first|apply Yk|apply Yd|apply Ym|apply Yj|apply Yh|apply Yi|apply Yn|apply Yl|apply Ye|apply Yg|apply Yr|apply Yc|apply Yf|apply Yb|apply Ya)|((with_reducible apply ws);exact rfl;exact rfl)|((with_reducible apply Yo);exact rfl;exact rfl;exact rfl)|((with_reducible apply Yq);exact rfl;exact rfl;exact rfl;exact rfl)|((with_reducible apply Yp);exact rfl;exact rfl;exact rfl)|((with_reducible apply YB .u16);exact rfl;exact ti_i16;exact ti_u16;exact rfl;exact rfl)|((with_reducible apply YB .u32);exact rfl;exact ti_i32;exact ti_u32;exact rfl;exact rfl)|((with_reducible apply YB .u32);exact rfl;exact ti_i64;exact ti_u32;exact rfl;exact rfl)|((with_reducible apply YB .i32);exact rfl;exact ti_i64;exact ti_i32;exact rfl;exact rfl)|((with_reducible apply YB .i16);exact rfl;exact ti_i64;exact ti_i16;exact rfl;exact rfl)|((with_reducible apply YB .u64);exact rfl;exact ti_i64;exact ti_u64;exact rfl;exact rfl)|((with_reducible apply YB .u8);exact rfl;exact ti_i8;exact ti_u8;exact rfl;exact rfl)|((with_reducible apply YB .i64);exact rfl;exact ti_u32;exact ti_i64;exact rfl;exact rfl)|((with_reducible apply YB .i64);exact rfl;exact ti_u8;exact ti_i64;exact rfl;exact rfl)
  refine Yu rfl (by kernel_rfl) rfl ((Yc6 (IntKind.u16.wrap i) d w B xs trivial hown hB (by rw [hb]; exact hlim)).mono ?_)
  rintro e w' ⟨d', rfl, ho, hg⟩
  rw [hb] at ho
  refine ⟨d', rfl, ?_⟩
  repeat first|(with_reducible first|apply Yk|apply Yd|apply Ym|apply Yj|apply Yh|apply Yi|apply Yn|apply Yl|apply Ye|apply Yg|apply Yr|apply Yc|apply Yf|apply Yb|apply Ya)|((with_reducible apply ws);exact rfl;exact rfl)|((with_reducible apply Yo);exact rfl;exact rfl;exact rfl)|((with_reducible apply Yq);exact rfl;exact rfl;exact rfl;exact rfl)|((with_reducible apply Yp);exact rfl;exact rfl;exact rfl)
  exact Yt rfl rfl ⟨_, rfl, ho, hg⟩
theorem appendBool (b : Bool) : App 104 [.bool b] [if b then 1 else 0] := by
  intro d w B xs hpre hown hB hlim
  refine enter Tryz.func104 rfl Tryz.ntmps104 rfl ?_
  repeat first|(with_reducible first|apply Yk|apply Yd|apply Ym|apply Yj|apply Yh|apply Yi|apply Yn|apply Yl|apply Ye|apply Yg|apply Yr|apply Yc|apply Yf|apply Yb|apply Ya)|((with_reducible apply ws);exact rfl;exact rfl)|((with_reducible apply Yo);exact rfl;exact rfl;exact rfl)|((with_reducible apply Yq);exact rfl;exact rfl;exact rfl;exact rfl)|((with_reducible apply Yp);exact rfl;exact rfl;exact rfl)
  cases b
  · refine YE rfl rfl ?_
    repeat first|(with_reducible first|apply Yk|apply Yd|apply Ym|apply Yj|apply Yh|apply Yi|apply Yn|apply Yl|apply Ye|apply Yg|apply Yr|apply Yc|apply Yf|apply Yb|apply Ya)|((with_reducible apply ws);exact rfl;exact rfl)|((with_reducible apply Yo);exact rfl;exact rfl;exact rfl)|((with_reducible apply Yq);exact rfl;exact rfl;exact rfl;exact rfl)|((with_reducible apply Yp);exact rfl;exact rfl;exact rfl)
    refine Xq tb_bytes rfl (ys := [0]) rfl rfl rfl rfl rfl rfl hown hB hlim (fun d' w' ho hg => ?_)
    repeat first|(with_reducible first|apply Yk|apply Yd|apply Ym|apply Yj|apply Yh|apply Yi|apply Yn|apply Yl|apply Ye|apply Yg|apply Yr|apply Yc|apply Yf|apply Yb|apply Ya)|((with_reducible apply ws);exact rfl;exact rfl)|((with_reducible apply Yo);exact rfl;exact rfl;exact rfl)|((with_reducible apply Yq);exact rfl;exact rfl;exact rfl;exact rfl)|((with_reducible apply Yp);exact rfl;exact rfl;exact rfl)
    exact Yt rfl rfl ⟨_, rfl, ho, hg⟩
  · refine Yz rfl rfl ?_
    repeat first|(with_reducible first|apply Yk|apply Yd|apply Ym|apply Yj|apply Yh|apply Yi|apply Yn|apply Yl|apply Ye|apply Yg|apply Yr|apply Yc|apply Yf|apply Yb|apply Ya)|((with_reducible apply ws);exact rfl;exact rfl)|((with_reducible apply Yo);exact rfl;exact rfl;exact rfl)|((with_reducible apply Yq);exact rfl;exact rfl;exact rfl;exact rfl)|((with_reducible apply Yp);exact rfl;exact rfl;exact rfl)
    refine Xq tb_bytes rfl (ys := [1]) rfl rfl rfl rfl rfl rfl hown hB hlim (fun d' w' ho hg => ?_)
    repeat first|(with_reducible first|apply Yk|apply Yd|apply Ym|apply Yj|apply Yh|apply Yi|apply Yn|apply Yl|apply Ye|apply Yg|apply Yr|apply Yc|apply Yf|apply Yb|apply Ya)|((with_reducible apply ws);exact rfl;exact rfl)|((with_reducible apply Yo);exact rfl;exact rfl;exact rfl)|((with_reducible apply Yq);exact rfl;exact rfl;exact rfl;exact rfl)|((with_reducible apply Yp);exact rfl;exact rfl;exact rfl)
    exact Yt rfl rfl ⟨_, rfl, ho, hg⟩
theorem Yk6 (n : Nat) (hn : n < 2147483648) : App 98 [.int .i64 (n : Int)] (be 4 n) := by
  intro d w B xs hpre hown hB hlim
  refine enter Tryz.func98 rfl Tryz.ntmps98 rfl ?_
  have hw : IntKind.i32.wrap (n : Int) = n := by rw [IntKind.wrap_i32]; omega
  repeat first|(with_reducible first|apply Yk|apply Yd|apply Ym|apply Yj|apply Yh|apply Yi|apply Yn|apply Yl|apply Ye|apply Yg|apply Yr|apply Yc|apply Yf|apply Yb|apply Ya)|((with_reducible apply ws);exact rfl;exact rfl)|((with_reducible apply Yo);exact rfl;exact rfl;exact rfl)|((with_reducible apply Yq);exact rfl;exact rfl;exact rfl;exact rfl)|((with_reducible apply Yp);exact rfl;exact rfl;exact rfl)
  refine YB .i32 rfl ti_i64 ti_i32 rfl hw ?_
  refine Yu rfl (by kernel_rfl) rfl ((Jv (n : Int) d w B xs trivial hown hB hlim).mono ?_)
  rintro e w' ⟨d', rfl, ho, hg⟩
  refine ⟨d', rfl, ?_⟩
  repeat first|(with_reducible first|apply Yk|apply Yd|apply Ym|apply Yj|apply Yh|apply Yi|apply Yn|apply Yl|apply Ye|apply Yg|apply Yr|apply Yc|apply Yf|apply Yb|apply Ya)|((with_reducible apply ws);exact rfl;exact rfl)|((with_reducible apply Yo);exact rfl;exact rfl;exact rfl)|((with_reducible apply Yq);exact rfl;exact rfl;exact rfl;exact rfl)|((with_reducible apply Yp);exact rfl;exact rfl;exact rfl)
  exact Yt rfl rfl ⟨_, rfl, ho, hg⟩
theorem UK (n : Nat) (hn : n < 2147483648) : App 97 [.int .i64 (n : Int)] (uvar (n + 1)) := by
  intro d w B xs hpre hown hB hlim
  refine enter Tryz.func97 rfl Tryz.ntmps97 rfl ?_
  have hw : IntKind.u32.wrap (n : Int) = n := by rw [IntKind.wrap_u32]; omega
  have hw1 : IntKind.u32.wrap (1 + (n : Int)) = ((n + 1 : Nat) : Int) := by rw [IntKind.wrap_u32]; omega
  repeat first|(with_reducible first|apply Yk|apply Yd|apply Ym|apply Yj|apply Yh|apply Yi|apply Yn|apply Yl|apply Ye|apply Yg|apply Yr|apply Yc|apply Yf|apply Yb|apply Ya)|((with_reducible apply ws);exact rfl;exact rfl)|((with_reducible apply Yo);exact rfl;exact rfl;exact rfl)|((with_reducible apply Yq);exact rfl;exact rfl;exact rfl;exact rfl)|((with_reducible apply Yp);exact rfl;exact rfl;exact rfl)
  refine YB .u32 rfl ti_i64 ti_u32 rfl hw (Xm rfl rfl rfl hw1 ?_)
  refine Yu rfl (by kernel_rfl) rfl ((XX (n + 1) (by omega) d w B xs trivial hown hB hlim).mono ?_)
  rintro e w' ⟨d', rfl, ho, hg⟩
  refine ⟨d', rfl, ?_⟩
  repeat first|(with_reducible first|apply Yk|apply Yd|apply Ym|apply Yj|apply Yh|apply Yi|apply Yn|apply Yl|apply Ye|apply Yg|apply Yr|apply Yc|apply Yf|apply Yb|apply Ya)|((with_reducible apply ws);exact rfl;exact rfl)|((with_reducible apply Yo);exact rfl;exact rfl;exact rfl)|((with_reducible apply Yq);exact rfl;exact rfl;exact rfl;exact rfl)|((with_reducible apply Yp);exact rfl;exact rfl;exact rfl)
  exact Yt rfl rfl ⟨_, rfl, ho, hg⟩
theorem Yc8 (s : ByteArray) (hs : s.size ≤ 32767) : App 75 [.string s] (be 2 s.size ++ Yd3 s) := by
  intro d w B xs hpre hown hB hlim
  refine enter Tryz.func75 rfl Tryz.ntmps75 rfl ?_
  simp only [List.length_append] at hlim
  simp only [be_length] at hlim
  have hsl := Vg s
  have hb : be 2 (IntKind.i16.wrap (s.size : Int)) = be 2 s.size := by rw [show IntKind.i16.wrap (s.size : Int) = s.size from by simp [IntKind.wrap, IntKind.bits, IntKind.signed]; split <;> omega]
  repeat first|(with_reducible first|apply Yk|apply Yd|apply Ym|apply Yj|apply Yh|apply Yi|apply Yn|apply Yl|apply Ye|apply Yg|apply Yr|apply Yc|apply Yf|apply Yb|apply Ya)|((with_reducible apply ws);exact rfl;exact rfl)|((with_reducible apply Yo);exact rfl;exact rfl;exact rfl)|((with_reducible apply Yq);exact rfl;exact rfl;exact rfl;exact rfl)|((with_reducible apply Yp);exact rfl;exact rfl;exact rfl)
  refine Jx rfl ts_str rfl ?_
  refine YB .i16 rfl ti_i64 ti_i16 rfl (r := IntKind.i16.wrap (s.size : Int)) rfl ?_
  refine Yu rfl (by kernel_rfl) rfl ((VY (IntKind.i16.wrap (s.size : Int)) d w B xs trivial hown hB (by simp only [be_length]; omega)).mono ?_)
  rintro e w1 ⟨d1, rfl, ho1, hg1⟩
  rw [hb] at ho1
  refine ⟨d1, rfl, ?_⟩
  repeat first|(with_reducible first|apply Yk|apply Yd|apply Ym|apply Yj|apply Yh|apply Yi|apply Yn|apply Yl|apply Ye|apply Yg|apply Yr|apply Yc|apply Yf|apply Yb|apply Ya)|((with_reducible apply ws);exact rfl;exact rfl)|((with_reducible apply Yo);exact rfl;exact rfl;exact rfl)|((with_reducible apply Yq);exact rfl;exact rfl;exact rfl;exact rfl)|((with_reducible apply Yp);exact rfl;exact rfl;exact rfl)
  refine wl_appStr tb_bytes ts_str rfl rfl rfl ho1 (Nat.le_trans hB hg1.grown.size) (by simp only [List.length_append, be_length]; omega) (fun d' w' ho hg => ?_)
  rw [List.append_assoc] at ho
  repeat first|(with_reducible first|apply Yk|apply Yd|apply Ym|apply Yj|apply Yh|apply Yi|apply Yn|apply Yl|apply Ye|apply Yg|apply Yr|apply Yc|apply Yf|apply Yb|apply Ya)|((with_reducible apply ws);exact rfl;exact rfl)|((with_reducible apply Yo);exact rfl;exact rfl;exact rfl)|((with_reducible apply Yq);exact rfl;exact rfl;exact rfl;exact rfl)|((with_reducible apply Yp);exact rfl;exact rfl;exact rfl)
  exact Yt rfl rfl ⟨_, rfl, ho, hg1.trans hg⟩
theorem Ud (s : ByteArray) (hs : s.size < 2147483648) : App 99 [.string s] (uvar (s.size + 1) ++ Yd3 s) := by
  intro d w B xs hpre hown hB hlim
  refine enter Tryz.func99 rfl Tryz.ntmps99 rfl ?_
  simp only [List.length_append] at hlim
  have hsl := Vg s
  repeat first|(with_reducible first|apply Yk|apply Yd|apply Ym|apply Yj|apply Yh|apply Yi|apply Yn|apply Yl|apply Ye|apply Yg|apply Yr|apply Yc|apply Yf|apply Yb|apply Ya)|((with_reducible apply ws);exact rfl;exact rfl)|((with_reducible apply Yo);exact rfl;exact rfl;exact rfl)|((with_reducible apply Yq);exact rfl;exact rfl;exact rfl;exact rfl)|((with_reducible apply Yp);exact rfl;exact rfl;exact rfl)
  refine Jx rfl ts_str rfl ?_
  refine YB .u32 rfl ti_i64 ti_u32 rfl (r := (s.size : Int)) (by rw [IntKind.wrap_u32]; omega) (Xm rfl rfl rfl (r := ((s.size + 1 : Nat) : Int)) (by rw [IntKind.wrap_u32]; omega) ?_)
  refine Yu rfl (by kernel_rfl) rfl ((XX (s.size + 1) (by omega) d w B xs trivial hown hB (by omega)).mono ?_)
  rintro e w1 ⟨d1, rfl, ho1, hg1⟩
  refine ⟨d1, rfl, ?_⟩
  repeat first|(with_reducible first|apply Yk|apply Yd|apply Ym|apply Yj|apply Yh|apply Yi|apply Yn|apply Yl|apply Ye|apply Yg|apply Yr|apply Yc|apply Yf|apply Yb|apply Ya)|((with_reducible apply ws);exact rfl;exact rfl)|((with_reducible apply Yo);exact rfl;exact rfl;exact rfl)|((with_reducible apply Yq);exact rfl;exact rfl;exact rfl;exact rfl)|((with_reducible apply Yp);exact rfl;exact rfl;exact rfl)
  refine wl_appStr tb_bytes ts_str rfl rfl rfl ho1 (Nat.le_trans hB hg1.grown.size) (by simp only [List.length_append]; omega) (fun d' w' ho hg => ?_)
  rw [List.append_assoc] at ho
  repeat first|(with_reducible first|apply Yk|apply Yd|apply Ym|apply Yj|apply Yh|apply Yi|apply Yn|apply Yl|apply Ye|apply Yg|apply Yr|apply Yc|apply Yf|apply Yb|apply Ya)|((with_reducible apply ws);exact rfl;exact rfl)|((with_reducible apply Yo);exact rfl;exact rfl;exact rfl)|((with_reducible apply Yq);exact rfl;exact rfl;exact rfl;exact rfl)|((with_reducible apply Yp);exact rfl;exact rfl;exact rfl)
  exact Yt rfl rfl ⟨_, rfl, ho, hg1.trans hg⟩
theorem appendNullableString_nil : App 66 [.pointer none] (be 2 (-1)) := by
  intro d w B xs hpre hown hB hlim
  refine enter Tryz.func66 rfl Tryz.ntmps66 rfl ?_
  repeat first|(with_reducible first|apply Yk|apply Yd|apply Ym|apply Yj|apply Yh|apply Yi|apply Yn|apply Yl|apply Ye|apply Yg|apply Yr|apply Yc|apply Yf|apply Yb|apply Ya)|((with_reducible apply ws);exact rfl;exact rfl)|((with_reducible apply Yo);exact rfl;exact rfl;exact rfl)|((with_reducible apply Yq);exact rfl;exact rfl;exact rfl;exact rfl)|((with_reducible apply Yp);exact rfl;exact rfl;exact rfl)
  refine JB rfl (by kernel_rfl) rfl ?_
  repeat first|(with_reducible first|apply Yk|apply Yd|apply Ym|apply Yj|apply Yh|apply Yi|apply Yn|apply Yl|apply Ye|apply Yg|apply Yr|apply Yc|apply Yf|apply Yb|apply Ya)|((with_reducible apply ws);exact rfl;exact rfl)|((with_reducible apply Yo);exact rfl;exact rfl;exact rfl)|((with_reducible apply Yq);exact rfl;exact rfl;exact rfl;exact rfl)|((with_reducible apply Yp);exact rfl;exact rfl;exact rfl)
  refine Yz rfl rfl ?_
  repeat first|(with_reducible first|apply Yk|apply Yd|apply Ym|apply Yj|apply Yh|apply Yi|apply Yn|apply Yl|apply Ye|apply Yg|apply Yr|apply Yc|apply Yf|apply Yb|apply Ya)|((with_reducible apply ws);exact rfl;exact rfl)|((with_reducible apply Yo);exact rfl;exact rfl;exact rfl)|((with_reducible apply Yq);exact rfl;exact rfl;exact rfl;exact rfl)|((with_reducible apply Yp);exact rfl;exact rfl;exact rfl)
  refine Yu rfl (by kernel_rfl) rfl ((VY (-1) d w B xs trivial hown hB hlim).mono ?_)
  rintro e w' ⟨d', rfl, ho, hg⟩
  refine ⟨d', rfl, ?_⟩
  repeat first|(with_reducible first|apply Yk|apply Yd|apply Ym|apply Yj|apply Yh|apply Yi|apply Yn|apply Yl|apply Ye|apply Yg|apply Yr|apply Yc|apply Yf|apply Yb|apply Ya)|((with_reducible apply ws);exact rfl;exact rfl)|((with_reducible apply Yo);exact rfl;exact rfl;exact rfl)|((with_reducible apply Yq);exact rfl;exact rfl;exact rfl;exact rfl)|((with_reducible apply Yp);exact rfl;exact rfl;exact rfl)
  exact Yt rfl rfl ⟨_, rfl, ho, hg⟩
theorem appendCompactNullableString_nil : App 103 [.pointer none] (uvar 0) := by
  intro d w B xs hpre hown hB hlim
  refine enter Tryz.func103 rfl Tryz.ntmps103 rfl ?_
  repeat first|(with_reducible first|apply Yk|apply Yd|apply Ym|apply Yj|apply Yh|apply Yi|apply Yn|apply Yl|apply Ye|apply Yg|apply Yr|apply Yc|apply Yf|apply Yb|apply Ya)|((with_reducible apply ws);exact rfl;exact rfl)|((with_reducible apply Yo);exact rfl;exact rfl;exact rfl)|((with_reducible apply Yq);exact rfl;exact rfl;exact rfl;exact rfl)|((with_reducible apply Yp);exact rfl;exact rfl;exact rfl)
  refine JB rfl (by kernel_rfl) rfl ?_
  repeat first|(with_reducible first|apply Yk|apply Yd|apply Ym|apply Yj|apply Yh|apply Yi|apply Yn|apply Yl|apply Ye|apply Yg|apply Yr|apply Yc|apply Yf|apply Yb|apply Ya)|((with_reducible apply ws);exact rfl;exact rfl)|((with_reducible apply Yo);exact rfl;exact rfl;exact rfl)|((with_reducible apply Yq);exact rfl;exact rfl;exact rfl;exact rfl)|((with_reducible apply Yp);exact rfl;exact rfl;exact rfl)
  refine Yz rfl rfl ?_
  repeat first|(with_reducible first|apply Yk|apply Yd|apply Ym|apply Yj|apply Yh|apply Yi|apply Yn|apply Yl|apply Ye|apply Yg|apply Yr|apply Yc|apply Yf|apply Yb|apply Ya)|((with_reducible apply ws);exact rfl;exact rfl)|((with_reducible apply Yo);exact rfl;exact rfl;exact rfl)|((with_reducible apply Yq);exact rfl;exact rfl;exact rfl;exact rfl)|((with_reducible apply Yp);exact rfl;exact rfl;exact rfl)
  refine Yu rfl (by kernel_rfl) rfl ((XX 0 (by omega) d w B xs trivial hown hB hlim).mono ?_)
  rintro e w' ⟨d', rfl, ho, hg⟩
  refine ⟨d', rfl, ?_⟩
  repeat first|(with_reducible first|apply Yk|apply Yd|apply Ym|apply Yj|apply Yh|apply Yi|apply Yn|apply Yl|apply Ye|apply Yg|apply Yr|apply Yc|apply Yf|apply Yb|apply Ya)|((with_reducible apply ws);exact rfl;exact rfl)|((with_reducible apply Yo);exact rfl;exact rfl;exact rfl)|((with_reducible apply Yq);exact rfl;exact rfl;exact rfl;exact rfl)|((with_reducible apply Yp);exact rfl;exact rfl;exact rfl)
  exact Yt rfl rfl ⟨_, rfl, ho, hg⟩
theorem Vf (p : Addr) (s : ByteArray) (hs : s.size ≤ 32767) : AppW 66 [.pointer (some p)] (fun w _ => w.cell? p = some (.string s)) (be 2 s.size ++ Yd3 s) := by
  intro d w B xs hpre hown hB hlim
  refine enter Tryz.func66 rfl Tryz.ntmps66 rfl ?_
  repeat first|(with_reducible first|apply Yk|apply Yd|apply Ym|apply Yj|apply Yh|apply Yi|apply Yn|apply Yl|apply Ye|apply Yg|apply Yr|apply Yc|apply Yf|apply Yb|apply Ya)|((with_reducible apply ws);exact rfl;exact rfl)|((with_reducible apply Yo);exact rfl;exact rfl;exact rfl)|((with_reducible apply Yq);exact rfl;exact rfl;exact rfl;exact rfl)|((with_reducible apply Yp);exact rfl;exact rfl;exact rfl)
  refine JB rfl (by kernel_rfl) rfl ?_
  repeat first|(with_reducible first|apply Yk|apply Yd|apply Ym|apply Yj|apply Yh|apply Yi|apply Yn|apply Yl|apply Ye|apply Yg|apply Yr|apply Yc|apply Yf|apply Yb|apply Ya)|((with_reducible apply ws);exact rfl;exact rfl)|((with_reducible apply Yo);exact rfl;exact rfl;exact rfl)|((with_reducible apply Yq);exact rfl;exact rfl;exact rfl;exact rfl)|((with_reducible apply Yp);exact rfl;exact rfl;exact rfl)
  refine YE rfl rfl ?_
  repeat first|(with_reducible first|apply Yk|apply Yd|apply Ym|apply Yj|apply Yh|apply Yi|apply Yn|apply Yl|apply Ye|apply Yg|apply Yr|apply Yc|apply Yf|apply Yb|apply Ya)|((with_reducible apply ws);exact rfl;exact rfl)|((with_reducible apply Yo);exact rfl;exact rfl;exact rfl)|((with_reducible apply Yq);exact rfl;exact rfl;exact rfl;exact rfl)|((with_reducible apply Yp);exact rfl;exact rfl;exact rfl)
  refine Xl rfl (by kernel_rfl) rfl hpre ?_
  refine Yu rfl (by kernel_rfl) rfl ((Yc8 s hs d w B xs trivial hown hB hlim).mono ?_)
  rintro e w' ⟨d', rfl, ho, hg⟩
  refine ⟨d', rfl, ?_⟩
  repeat first|(with_reducible first|apply Yk|apply Yd|apply Ym|apply Yj|apply Yh|apply Yi|apply Yn|apply Yl|apply Ye|apply Yg|apply Yr|apply Yc|apply Yf|apply Yb|apply Ya)|((with_reducible apply ws);exact rfl;exact rfl)|((with_reducible apply Yo);exact rfl;exact rfl;exact rfl)|((with_reducible apply Yq);exact rfl;exact rfl;exact rfl;exact rfl)|((with_reducible apply Yp);exact rfl;exact rfl;exact rfl)
  exact Yt rfl rfl ⟨_, rfl, ho, hg⟩
theorem Vw (p : Addr) (s : ByteArray) (hs : s.size < 2147483648) : AppW 103 [.pointer (some p)] (fun w _ => w.cell? p = some (.string s)) (uvar (s.size + 1) ++ Yd3 s) := by
  intro d w B xs hpre hown hB hlim
  refine enter Tryz.func103 rfl Tryz.ntmps103 rfl ?_
  repeat first|(with_reducible first|apply Yk|apply Yd|apply Ym|apply Yj|apply Yh|apply Yi|apply Yn|apply Yl|apply Ye|apply Yg|apply Yr|apply Yc|apply Yf|apply Yb|apply Ya)|((with_reducible apply ws);exact rfl;exact rfl)|((with_reducible apply Yo);exact rfl;exact rfl;exact rfl)|((with_reducible apply Yq);exact rfl;exact rfl;exact rfl;exact rfl)|((with_reducible apply Yp);exact rfl;exact rfl;exact rfl)
  refine JB rfl (by kernel_rfl) rfl ?_
  repeat first|(with_reducible first|apply Yk|apply Yd|apply Ym|apply Yj|apply Yh|apply Yi|apply Yn|apply Yl|apply Ye|apply Yg|apply Yr|apply Yc|apply Yf|apply Yb|apply Ya)|((with_reducible apply ws);exact rfl;exact rfl)|((with_reducible apply Yo);exact rfl;exact rfl;exact rfl)|((with_reducible apply Yq);exact rfl;exact rfl;exact rfl;exact rfl)|((with_reducible apply Yp);exact rfl;exact rfl;exact rfl)
  refine YE rfl rfl ?_
  repeat first|(with_reducible first|apply Yk|apply Yd|apply Ym|apply Yj|apply Yh|apply Yi|apply Yn|apply Yl|apply Ye|apply Yg|apply Yr|apply Yc|apply Yf|apply Yb|apply Ya)|((with_reducible apply ws);exact rfl;exact rfl)|((with_reducible apply Yo);exact rfl;exact rfl;exact rfl)|((with_reducible apply Yq);exact rfl;exact rfl;exact rfl;exact rfl)|((with_reducible apply Yp);exact rfl;exact rfl;exact rfl)
  refine Xl rfl (by kernel_rfl) rfl hpre ?_
  refine Yu rfl (by kernel_rfl) rfl ((Ud s hs d w B xs trivial hown hB hlim).mono ?_)
  rintro e w' ⟨d', rfl, ho, hg⟩
  refine ⟨d', rfl, ?_⟩
  repeat first|(with_reducible first|apply Yk|apply Yd|apply Ym|apply Yj|apply Yh|apply Yi|apply Yn|apply Yl|apply Ye|apply Yg|apply Yr|apply Yc|apply Yf|apply Yb|apply Ya)|((with_reducible apply ws);exact rfl;exact rfl)|((with_reducible apply Yo);exact rfl;exact rfl;exact rfl)|((with_reducible apply Yq);exact rfl;exact rfl;exact rfl;exact rfl)|((with_reducible apply Yp);exact rfl;exact rfl;exact rfl)
  exact Yt rfl rfl ⟨_, rfl, ho, hg⟩
end
end Go.Proofs.YtmihblfjhoblmaaGreatDoor

/- More operations: a new slice of octets, a copy of octets, the lowest bit. Over any program. -/
namespace Go.Proofs.YtmihblfjhoblmaaGreatDoor
open Go Go.RowKit

theorem and1 (n : Int) : bits .and .i64 n 1 = n % 2 := by
  have key : bits .and .i64 n 1 = IntKind.i64.wrap ((BitVec.ofInt 64 n &&& BitVec.ofInt 64 1).toNat : Nat) := rfl
  rw [key, IntKind.wrap_i64]
  have h1 : (BitVec.ofInt 64 n &&& BitVec.ofInt 64 1).toNat = (BitVec.ofInt 64 n).toNat % 2 := by
    rw [BitVec.toNat_and]
    show (BitVec.ofInt 64 n).toNat &&& 1 = _
    rw [Nat.and_one_is_mod]
  rw [h1, BitVec.toNat_ofInt]
  omega
theorem wrap_bit (n : Int) : IntKind.u8.wrap (n % 2) = ((Vp (n % 2)).toNat : Int) := wrap_u8 _

section
variable {P : Program} {ops : Array Oper} {Q : Exit → Act → World → Prop} {N : Nat} {rest : List Oper} {L : Sl} {w : World} {d : Nat} {ty : TypeId} {pos : String} {aft : Array Edge}
/-- A new slice of n noughts. -/
theorem wl_makeB {t u8 B n : Nat} {kl kc : IntKind} (hT : Vy P t u8 = true) (hz : (P.info? u8).bind (·.zero) = some (.int .u8 0)) (hn : Nat.ble n 1000000 = true) (hd : Nat.blt d N = true) (hB : B ≤ w.heap.size)
    (h : ∀ w', Own w' B u8 (.slice (some ⟨w.heap.size, 0, none⟩) n n) (List.replicate n 0) → w.grownBy w' none → WL rest P ops Q N ((d, .slice (some ⟨w.heap.size, 0, none⟩) n n) :: L) w') :
    WL (⟨some d, .makeSlice t (.const (.int kl (n : Int))) (.const (.int kc (n : Int))), ty, pos, aft, none⟩ :: rest) P ops Q N L w := by
  intro a k
  obtain ⟨hu, i, z, hi, hs1, hb1, hz', hzc⟩ := XN hT
  have hn' := Nat.le_of_ble_eq_true hn
  obtain ⟨w', hr, ho, hg⟩ := run_makeSlice_full (P := P) (w := w) B t u8 i z 1 hu hi hz' hs1 kl kc n (by omega) (by rw [hb1]; omega) (by simp only [maxLen]; omega) hB
  have hzz : z = .int .u8 0 := by rw [hi] at hz; simp only [Option.bind_some, hz', Option.some.injEq] at hz; exact hz
  subst hzz
  have hc : (madeCells (Value.cells (.int .u8 0)) (n * 1)).toList = bv (List.replicate n 0) := by
    simp only [madeCells, Nat.mul_one, bv, List.map_replicate, Array.toList_map]
    apply List.ext_getElem
    · simp
    · intro j h1 h2; simp [Value.cells, Nat.mod_one]
  rw [hc] at ho
  refine YR (o := ⟨some d, .makeSlice t (.const (.int kl (n : Int))) (.const (.int kc (n : Int))), ty, pos, aft, none⟩) (w' := w') rfl ?_ (h w' ?_ hg _ (k.put _ hd))
  · simp only [execOp, XG, Sem.run_bind, hr, Result.andThen_ok, Sem.run_pure]
  · unfold Own; rw [List.length_replicate]; exact ho
/-- Octets copied to the head of a slice that the call owns. -/
theorem wl_copyB {t u u8 B n g cap : Nat} {x y : Operand} {sv : Value} {xs ys : List UInt8} (hT : Vy P t u8 = true) (hx : ev L x = some (.slice (some ⟨g, 0, none⟩) n cap)) (hy : ev L y = some sv) (hd : Nat.blt d N = true)
    (hown : Own w B u8 (.slice (some ⟨g, 0, none⟩) n cap) xs) (hlen : xs.length = n) (hsv : Xn w sv ys)
    (h : ∀ w', Own w' B u8 (.slice (some ⟨g, 0, none⟩) n cap) (ys.take n ++ xs.drop (min ys.length n)) → w.grownBy w' (some g) → WL rest P ops Q N ((d, .int .i64 ((min ys.length n : Nat) : Int)) :: L) w') :
    WL (⟨some d, .call ⟨.builtin .copy, #[x, y], #[t, u]⟩, ty, pos, aft, none⟩ :: rest) P ops Q N L w := by
  intro a k
  obtain ⟨hu, i, z, hi, hs1, hb1, hz', hzc⟩ := XN hT
  have hsz : (P.info? u8).map (·.size) = some 1 := by rw [hi]; simp [hs1]
  subst hlen
  rcases hsv with ⟨a0, c, rfl, rfl⟩ | ⟨b, off, c, rfl, hc⟩
  · have hrun := run_copy_none (P := P) w t u ty u8 (some ⟨g, 0, none⟩) a0 xs.length cap 0 c hu hsz (by simp)
    refine YR (o := ⟨some d, .call ⟨.builtin .copy, #[x, y], #[t, u]⟩, ty, pos, aft, none⟩) (v := .int .i64 ((min ([] : List UInt8).length xs.length : Nat) : Int)) (w' := w) rfl ?_ (h w (by simpa using hown) ⟨rfl, rfl, rfl, Nat.le_refl _, fun _ _ _ => rfl⟩ _ (k.put _ hd))
    simp only [execOp, resolve, List.map_toArray, List.map_cons, List.map_nil, k.eval hx, k.eval hy, Sem.run_bind, Sem.run_pure, Result.andThen_ok, invoke, builtin, hrun]
    simp [goInt]
  · obtain ⟨hxl, ⟨he, h0⟩ | ⟨g', cap', cur, he, hBg, hheap, hle, hcap, hcs, htake⟩⟩ := hown
    · cases he
    · cases he
      have hcl : (bv (ys.take xs.length)).length = Nat.min ys.length xs.length := by rw [YV, List.length_take, Nat.min_comm]
      have hm : Nat.min ys.length xs.length ≤ xs.length := Nat.min_le_right _ _
      have hrun := run_copy_row (P := P) w t u ty u8 g 0 xs.length cap ⟨b, off, none⟩ ys.length c cur u8 (bv (ys.take xs.length)) hu hsz hheap hcl
        (fun j v hv => by
          rw [YN _ _ rfl]
          refine hc.cell (i := j) ?_
          simp only [bv, List.map_take] at hv
          rw [List.getElem?_take] at hv
          split at hv
          · exact hv
          · cases hv) (by rw [hcl]; rw [Nat.mul_one] at hcs; omega) (bv_one _)
      refine YR (o := ⟨some d, .call ⟨.builtin .copy, #[x, y], #[t, u]⟩, ty, pos, aft, none⟩) (v := .int .i64 ((min ys.length xs.length : Nat) : Int)) (w' := w.setRow g (cur.toList.take 0 ++ bv (ys.take xs.length) ++ cur.toList.drop (0 + (bv (ys.take xs.length)).length)).toArray) rfl ?_ (h _ ?_ ?_ _ (k.put _ hd))
      · simp only [execOp, resolve, List.map_toArray, List.map_cons, List.map_nil, k.eval hx, k.eval hy, Sem.run_bind, Sem.run_pure, Result.andThen_ok, invoke, builtin, hrun]
        simp [goInt, hcl]
      · rw [Nat.mul_one] at hcs
        have hxx : (ys.take xs.length ++ xs.drop (min ys.length xs.length)).length = xs.length := by simp only [List.length_append, List.length_take, List.length_drop]; omega
        refine ⟨by rw [YV]; omega, .inr ⟨g, cap, _, by rw [hxx], hBg, setRow_heap w g cur _ u8 _ hheap, by rw [hxx]; exact hle, hcap, ?_, ?_⟩⟩
        · simp only [List.size_toArray, List.length_append, List.length_take, List.length_drop, Array.length_toList, hcl, hcs]; omega
        · have hl : cur.toList.length = cap := by simp [hcs]
          rw [hxx, Ug]
          simp only [Nat.mul_one] at htake
          simp only [List.take_zero, List.nil_append, Nat.zero_add, hcl, Nat.mul_one]
          rw [List.take_append, List.take_of_length_le (by rw [hcl]; exact hm)]
          congr 1
          rw [hcl]
          have : bv (xs.drop (min ys.length xs.length)) = (bv xs).drop (min ys.length xs.length) := by simp [bv]
          rw [this, ← htake, List.drop_take]
      · exact ⟨rfl, rfl, rfl, by simp, fun k' _ hk => setRow_other w g k' _ (fun e' => hk (by rw [e']))⟩
end
end Go.Proofs.YtmihblfjhoblmaaGreatDoor

/- Arrays: the slice of a whole one, octets copied into one. Over any program. -/
namespace Go.Proofs.YtmihblfjhoblmaaGreatDoor
open Go Go.RowKit

def arrOf (P : Program) (t n : Nat) : Bool := match P.underlying t with
  | some (.array m e) => Nat.beq m n && (P.info? e).isSome
  | _ => false
section
variable {P : Program} {ops : Array Oper} {Q : Exit → Act → World → Prop} {N : Nat} {rest : List Oper} {L : Sl} {w : World} {ty : TypeId} {pos : String} {aft : Array Edge}
end
end Go.Proofs.YtmihblfjhoblmaaGreatDoor

/- The package's functions that append, more: identifiers of XL octets. -/
namespace Go.Proofs.YtmihblfjhoblmaaGreatDoor
open Go Go.RowKit

section
set_option maxRecDepth 100000
end
end Go.Proofs.YtmihblfjhoblmaaGreatDoor

/- The package's appending functions, as the reading of code knows them. -/
namespace Go.Proofs.YtmihblfjhoblmaaGreatDoor
open Go Go.RowKit

def FnOk (f : Nat) (p : Pf) : Prop := ∀ (args : List Ar) (vs : List Value) (ys : List UInt8) (d : Value) (w : World) (B : Nat) (xs : List UInt8),
  semP p args = some ys → ArsOk B w args vs → Own w B 5 d xs → B ≤ w.heap.size → xs.length + ys.length ≤ lim →
  Calls Tryz.prog f (d :: vs).toArray w fun e w' => ∃ d', e = .returned d' ∧ Own w' B 5 d' (xs ++ ys) ∧ Grew w w' d d'
theorem arVal {B : Nat} {w : World} {a : Ar} {x v : Value} (h : a.val = some x) (k : ArOk B w a v) : v = x := by
  cases a with
  | v y => simp only [Ar.val, Option.some.injEq] at h; subst h; exact k
  | d y =>
    cases y with
    | lit z =>
      simp only [Ar.val, Option.some.injEq] at h; subst h
      simp only [ArOk, Rep] at k
      simpa using k
    | _ => cases h
theorem ars1 {B : Nat} {w : World} {a : Ar} {vs : List Value} (h : ArsOk B w [a] vs) : ∃ v, vs = [v] ∧ ArOk B w a v := by
  obtain ⟨v, r, rfl, h1, h2⟩ := h
  simp only [ArsOk] at h2
  subst h2
  exact ⟨v, rfl, h1⟩
theorem srcOf {B : Nat} {w : World} {d : D} {n : Bool} {ds : List D} {cs : List UInt8} {v : Value} (h : sliceOf d = some (n, ds)) (hb : bytesOf ds = some cs) (k : ArOk B w (.d d) v) : Src w B v cs := by
  have hds := bytesOf_eq hb
  subst hds
  have key : ∀ (b off cap : Nat) (cs' : List Value), Lo B b → YL w b off cs' → YX (Lo B) w (cs.map byteD) cs' → Src w B (.slice (some ⟨b, off, none⟩) cs.length cap) cs := by
    intro b off cap cs' hb hc hr
    rw [(VT cs cs').1 hr] at hc
    refine ⟨.inr ⟨b, off, cap, rfl, hc⟩, .inr (fun g hg => ?_)⟩
    simp only [Value.ownBlock, Option.some.injEq] at hg
    subst hg; exact hb
  cases d with
  | sl m l =>
    simp only [sliceOf, Option.some.injEq, Prod.mk.injEq] at h
    obtain ⟨rfl, rfl⟩ := h
    simp only [ArOk, Rep, List.length_map] at k
    obtain ⟨a, c, e, _, h1, h2⟩ := k
    simp only [List.cons.injEq, and_true] at e
    subst e
    cases m with
    | true =>
      obtain ⟨rfl, h0, _⟩ := h1 rfl
      have : cs = [] := by simpa using h0
      subst this
      exact ⟨.inl ⟨_, _, rfl, rfl⟩, .inl rfl⟩
    | false => obtain ⟨b, off, cs', rfl, hb, hc, hr⟩ := h2 rfl; exact key b off c cs' hb hc hr
  | sq l =>
    simp only [sliceOf, Option.some.injEq, Prod.mk.injEq] at h
    obtain ⟨rfl, rfl⟩ := h
    simp only [ArOk, Rep, List.length_map] at k
    obtain ⟨a, c, e, _, h2⟩ := k
    simp only [List.cons.injEq, and_true] at e
    subst e
    rcases h2 with h0 | ⟨b, off, cs', rfl, hb, hc, hr⟩
    · have : cs = [] := by simpa using h0
      subst this
      exact ⟨.inl ⟨_, _, rfl, rfl⟩, .inl rfl⟩
    · exact key b off c cs' hb hc hr
  | _ => cases h
theorem k_bool : FnOk 104 .bool := by
  intro args vs ys d w B xs hs ha ho hB hl
  cases args with
  | nil => simp [semP] at hs
  | cons a r =>
    cases r with
    | cons _ _ => simp [semP] at hs
    | nil =>
      obtain ⟨v, rfl, hv⟩ := ars1 ha
      simp only [semP] at hs
      split at hs
      · rename_i n hn; cases hs; rw [arVal hn hv] at *; exact appendBool n d w B xs trivial ho hB hl
      · cases hs
theorem k_i16 : FnOk 64 .i16 := by
  intro args vs ys d w B xs hs ha ho hB hl
  cases args with
  | nil => simp [semP] at hs
  | cons a r =>
    cases r with
    | cons _ _ => simp [semP] at hs
    | nil =>
      obtain ⟨v, rfl, hv⟩ := ars1 ha
      simp only [semP] at hs
      split at hs
      · rename_i n hn; cases hs; rw [arVal hn hv] at *; exact VY n d w B xs trivial ho hB hl
      · cases hs
theorem k_i32 : FnOk 65 .i32 := by
  intro args vs ys d w B xs hs ha ho hB hl
  cases args with
  | nil => simp [semP] at hs
  | cons a r =>
    cases r with
    | cons _ _ => simp [semP] at hs
    | nil =>
      obtain ⟨v, rfl, hv⟩ := ars1 ha
      simp only [semP] at hs
      split at hs
      · rename_i n hn; cases hs; rw [arVal hn hv] at *; exact Jv n d w B xs trivial ho hB hl
      · cases hs
theorem k_u16 : FnOk 73 .u16 := by
  intro args vs ys d w B xs hs ha ho hB hl
  cases args with
  | nil => simp [semP] at hs
  | cons a r =>
    cases r with
    | cons _ _ => simp [semP] at hs
    | nil =>
      obtain ⟨v, rfl, hv⟩ := ars1 ha
      simp only [semP] at hs
      split at hs
      · rename_i n hn; cases hs; rw [arVal hn hv] at *; exact Yc6 n d w B xs trivial ho hB hl
      · cases hs
theorem k_str : FnOk 75 .str := by
  intro args vs ys d w B xs hs ha ho hB hl
  cases args with
  | nil => simp [semP] at hs
  | cons a r =>
    cases r with
    | cons _ _ => simp [semP] at hs
    | nil =>
      obtain ⟨v, rfl, hv⟩ := ars1 ha
      simp only [semP] at hs
      split at hs
      · rename_i s hn; split at hs
        · rename_i hsz; cases hs; rw [arVal hn hv] at *; exact Yc8 s (by omega) d w B xs trivial ho hB hl
        · cases hs
      · cases hs
theorem k_cstr : FnOk 99 .cstr := by
  intro args vs ys d w B xs hs ha ho hB hl
  cases args with
  | nil => simp [semP] at hs
  | cons a r =>
    cases r with
    | cons _ _ => simp [semP] at hs
    | nil =>
      obtain ⟨v, rfl, hv⟩ := ars1 ha
      simp only [semP] at hs
      split at hs
      · rename_i s hn; split at hs
        · rename_i hsz; cases hs; rw [arVal hn hv] at *; exact Ud s (by omega) d w B xs trivial ho hB hl
        · cases hs
      · cases hs
theorem k_nstr : FnOk 66 .nstr := by
  intro args vs ys d w B xs hs ha ho hB hl
  unfold semP at hs
  split at hs
  all_goals try (rename_i hp; cases hp; done)
  all_goals try (cases hs; done)
  · obtain ⟨v, rfl, hv⟩ := ars1 ha
    cases hs
    simp only [ArOk, Rep, List.cons.injEq, and_true] at hv
    subst hv
    exact appendNullableString_nil d w B xs trivial ho hB hl
  · obtain ⟨v, rfl, hv⟩ := ars1 ha
    split at hs
    · rename_i hsz
      cases hs
      simp only [ArOk, Rep, List.cons.injEq, and_true] at hv
      obtain ⟨b, cs', rfl, _, hc, rfl⟩ := hv
      exact Vf ⟨b, 0, none⟩ _ (by omega) d w B xs (hc.cell (i := 0) rfl) ho hB hl
    · cases hs
theorem k_cnstr : FnOk 103 .cnstr := by
  intro args vs ys d w B xs hs ha ho hB hl
  unfold semP at hs
  split at hs
  all_goals try (rename_i hp; cases hp; done)
  all_goals try (cases hs; done)
  · obtain ⟨v, rfl, hv⟩ := ars1 ha
    cases hs
    simp only [ArOk, Rep, List.cons.injEq, and_true] at hv
    subst hv
    exact appendCompactNullableString_nil d w B xs trivial ho hB hl
  · obtain ⟨v, rfl, hv⟩ := ars1 ha
    split at hs
    · rename_i hsz
      cases hs
      simp only [ArOk, Rep, List.cons.injEq, and_true] at hv
      obtain ⟨b, cs', rfl, _, hc, rfl⟩ := hv
      exact Vw ⟨b, 0, none⟩ _ (by omega) d w B xs (hc.cell (i := 0) rfl) ho hB hl
    · cases hs
theorem k_arr : FnOk 98 .arr := by
  intro args vs ys d w B xs hs ha ho hB hl
  unfold semP at hs
  split at hs
  all_goals try (rename_i hp; cases hp; done)
  all_goals try (cases hs; done)
  · obtain ⟨v, rfl, hv⟩ := ars1 ha
    split at hs
    · rename_i n hn
      cases hs
      simp only [ArOk] at hv
      subst hv
      obtain ⟨m, rfl⟩ := Int.eq_ofNat_of_zero_le hn.1
      exact Yk6 m (by omega) d w B xs trivial ho hB hl
    · cases hs
theorem k_carr : FnOk 97 .carr := by
  intro args vs ys d w B xs hs ha ho hB hl
  unfold semP at hs
  split at hs
  all_goals try (rename_i hp; cases hp; done)
  all_goals try (cases hs; done)
  · obtain ⟨v, rfl, hv⟩ := ars1 ha
    split at hs
    · rename_i n hn
      cases hs
      simp only [ArOk] at hv
      subst hv
      obtain ⟨m, rfl⟩ := Int.eq_ofNat_of_zero_le hn.1
      exact UK m (by omega) d w B xs trivial ho hB hl
    · cases hs
theorem k_uvar : FnOk 100 .uvar := by
  intro args vs ys d w B xs hs ha ho hB hl
  unfold semP at hs
  split at hs
  all_goals try (rename_i hp; cases hp; done)
  all_goals try (cases hs; done)
  · obtain ⟨v, rfl, hv⟩ := ars1 ha
    split at hs
    · rename_i n hn
      cases hs
      simp only [ArOk] at hv
      subst hv
      obtain ⟨m, rfl⟩ := Int.eq_ofNat_of_zero_le hn.1
      exact XX m (by omega) d w B xs trivial ho hB hl
    · cases hs
/-- The functions of this program that append. -/
def fns : List (Nat × Pf) :=
  (104, .bool) ::
  (64, .i16) ::
  (65, .i32) ::
  (73, .u16) ::
  (75, .str) ::
  (99, .cstr) ::
  (66, .nstr) ::
  (103, .cnstr) ::
  (98, .arr) ::
  (97, .carr) ::
  (100, .uvar) ::
  []
theorem fns_all : ∀ kv ∈ fns, FnOk kv.1 kv.2 := by
  unfold fns
  refine List.forall_mem_cons.2 ⟨k_bool, ?_⟩
  refine List.forall_mem_cons.2 ⟨k_i16, ?_⟩
  refine List.forall_mem_cons.2 ⟨k_i32, ?_⟩
  refine List.forall_mem_cons.2 ⟨k_u16, ?_⟩
  refine List.forall_mem_cons.2 ⟨k_str, ?_⟩
  refine List.forall_mem_cons.2 ⟨k_cstr, ?_⟩
  refine List.forall_mem_cons.2 ⟨k_nstr, ?_⟩
  refine List.forall_mem_cons.2 ⟨k_cnstr, ?_⟩
  refine List.forall_mem_cons.2 ⟨k_arr, ?_⟩
  refine List.forall_mem_cons.2 ⟨k_carr, ?_⟩
  refine List.forall_mem_cons.2 ⟨k_uvar, ?_⟩
  intro kv h
  cases h
theorem pfOf_mem : ∀ {l : List (Nat × Pf)} {f : Nat} {p : Pf}, pfOf l f = some p → (f, p) ∈ l
  | [], _, _, h => by cases h
  | kv :: r, f, p, h => by
    simp only [pfOf] at h
    cases hb : Nat.beq kv.1 f with
    | true =>
      rw [hb] at h
      simp only [cond_true, Option.some.injEq] at h
      have := Ys hb
      subst h; subst this; simp
    | false => rw [hb] at h; exact List.mem_cons_of_mem _ (pfOf_mem h)
/-- What the reading of this program's code knows, at a version. -/
def kt (tlen teach : Nat) (ver : Int) : Kt := ⟨fns, tlen, teach, .int .i16 ver⟩
theorem fnsOk (tlen teach : Nat) (ver : Int) : FnsOk Tryz.prog 5 (kt tlen teach ver) := by
  intro f p h _
  exact fns_all _ (pfOf_mem h)
end Go.Proofs.YtmihblfjhoblmaaGreatDoor

/- Tags.Len at the seat. -/
namespace Go.Proofs.YtmihblfjhoblmaaGreatDoor.Rdk
open Go Go.RowKit

theorem run_lenMap {P : Program} {t ty kt et : TypeId} (w : World) (m : Option Nat) (n : Nat) (h : P.underlying t = some (.map kt et)) (hm : (m = none ∧ n = 0) ∨ ∃ r es clock, m = some r ∧ w.heap[r]? = some (.map es clock) ∧ es.size = n) :
    (Builtin.len_ #[t] ty #[.map m]).run P w = .ok (.int .i64 (n : Int)) w := by
  rcases hm with ⟨rfl, rfl⟩ | ⟨r, es, clock, rfl, hb, rfl⟩
  · simp [Builtin.len_, run_underlying h, goInt]
  · simp [Builtin.len_, run_underlying h, MapKept.run_getObj_map hb, goInt]
theorem mp_len {ok : Nat → Prop} {w : World} {kvs : List (Nat × D)} {v : Value} (h : Rep ok w (.mp kvs) [v]) : ∃ m, v = .map m ∧ ((m = none ∧ kvs.length = 0) ∨ ∃ r es clock, m = some r ∧ w.heap[r]? = some (.map es clock) ∧ es.size = kvs.length) := by
  simp only [Rep] at h
  rcases h with ⟨e, rfl⟩ | ⟨r, es, clock, e, _, hb, hm, _⟩
  · simp only [List.cons.injEq, and_true] at e
    exact ⟨none, e, .inl ⟨rfl, rfl⟩⟩
  · simp only [List.cons.injEq, and_true] at e
    exact ⟨some r, e, .inr ⟨r, es, clock, rfl, hb, by rw [hm.1, List.length_map]⟩⟩
section
variable {P : Program} {ops : Array Oper} {Q : Exit → Act → World → Prop} {N : Nat} {rest : List Oper} {L : Sl} {w : World} {d : Nat} {ty : TypeId} {pos : String} {aft : Array Edge}
theorem Ye8 {x : Operand} {t kt et : TypeId} {m : Option Nat} {n : Nat} (hx : ev L x = some (.map m)) (hu : P.underlying t = some (.map kt et)) (hm : (m = none ∧ n = 0) ∨ ∃ r es clock, m = some r ∧ w.heap[r]? = some (.map es clock) ∧ es.size = n) (hd : Nat.blt d N = true)
    (h : WL rest P ops Q N ((d, .int .i64 (n : Int)) :: L) w) : WL (⟨some d, .call ⟨.builtin .len, #[x], #[t]⟩, ty, pos, aft, none⟩ :: rest) P ops Q N L w := by
  intro a k
  refine YR (o := ⟨some d, .call ⟨.builtin .len, #[x], #[t]⟩, ty, pos, aft, none⟩) rfl ?_ (h _ (k.put _ hd))
  simp [execOp, resolve, k.eval hx, invoke, builtin, run_lenMap w m n hu hm]
end
theorem tlenOk (teach : Nat) (ver : Int) : Yj2 Tryz.prog (kt 101 teach ver) := by
  intro B w b off kvs v _ hc hr
  obtain ⟨m, rfl, hm⟩ := mp_len hr
  refine enter Tryz.func101 rfl Tryz.ntmps101 rfl ?_
  refine Yk (Yd (YA rfl rfl (Ym (Yj ?_))))
  refine Yk (Yd ?_)
  refine wt rfl rfl ?_
  refine wt rfl rfl ?_
  refine wt rfl rfl ?_
  refine Xl rfl to_map rfl hc ?_
  refine Ye8 rfl um hm rfl ?_
  refine wt rfl rfl ?_
  exact Ym (Yj (Yn (Yt rfl rfl ⟨rfl, rfl⟩)))
end Go.Proofs.YtmihblfjhoblmaaGreatDoor.Rdk

/- The library's sort.Slice at the seat, on a row of 32-bit numbers that the call owns. -/
namespace Go.Proofs.YtmihblfjhoblmaaGreatDoor.Rdk
open Go Go.RowKit Go.Sort Go.Lib Go.Shelf

set_option maxRecDepth 100000
noncomputable def siT : TypeInfo := (Tryz.prog.info? 157).get (by kernel_rfl)
noncomputable def siE : TypeInfo := (Tryz.prog.info? 59).get (by kernel_rfl)
theorem siK (n : Nat) (h2 : 2 ≤ n) : Lib.swapperK n siE 10 = 6 := by
  have a : siE.hasPointers = false := by kernel_rfl
  have b : siE.bytes = 4 := by kernel_rfl
  have c : (n == 0) = false := by simp; omega
  have d : (n == 1) = false := by simp; omega
  simp [Lib.swapperK, a, b, c, d]
set_option maxHeartbeats 2000000 in
theorem less_u32 (blk off c Bs size : Nat) (W : World) (G : Nat → Int) (hs : W.cell? ⟨Bs, 0, none⟩ = some (.slice (some ⟨blk, off, none⟩) size c))
    (hc : ∀ t, t < size → W.cell? ⟨blk, off + t, none⟩ = some (.int .u32 (G t))) (i j : Nat) (hi : i < size) (hj : j < size) :
    Calls Tryz.prog 110 #[.int .i64 i, .int .i64 j, .pointer (some ⟨Bs, 0, none⟩)] W fun e w' => e = .returned (.bool (decide (G i < G j))) ∧ ∃ q, w' = W.drewN q := by
  have ci := hc i hi
  have cj := hc j hj
  go_enter Tryz.func110, Tryz.ntmps110
  go_wp2
  go_quiet (fail)
  go_wp2
  go_ret
  exact ⟨rfl, nq, rfl⟩
abbrev encU : Int → Value := Value.int .u32
theorem holds_row {w : World} {B blk cap : Nat} {e : TypeId} {zs : List Int} (h : w.ownsRow B e 1 (.slice (some ⟨blk, 0, none⟩) zs.length cap) zs.length (zs.map encU)) : Holds encU w blk 0 zs.toArray := by
  obtain ⟨_, ⟨he, _⟩ | ⟨g, cap', cur, he, _, hheap, hle, hcap, hcs, htake⟩⟩ := h
  · cases he
  · cases he
    intro j hj
    have hj' : j < zs.length := by simpa using hj
    have hx : cur[j]? = some (encU zs[j]) := by
      have : (cur.toList.take (zs.length * 1))[j]? = some (encU zs[j]) := by rw [htake]; simp [hj']
      rw [List.getElem?_take] at this
      split at this
      · simpa using this
      · cases this
    refine ⟨?_, by simp [World.frozen?, hheap]⟩
    rw [show (zs.toArray)[j]! = zs[j] by simp [hj']]
    simp [World.cell?, hheap, hx]
theorem sorted_row {w w' : World} {blk n : Nat} {cur : Array Value} {e : TypeId} {d' : Array Int} {os : Array Obj} (hb : w.heap[blk]? = some (.cells cur e (0, 0))) (hsz : d'.size ≤ cur.size) (hw : w' = grow (putRow encU (Sort.ahead w n) blk 0 d') os) :
    YL w' blk 0 (d'.toList.map encU) ∧ Chg (· = blk) w w' := by
  subst hw
  have hlt : blk < w.heap.size := (Array.getElem?_eq_some_iff.1 hb).1
  have hbl : (putRow encU (Sort.ahead w n) blk 0 d').heap[blk]? = some (.cells (putCells encU 0 d' cur) e (0, 0)) := by
    simp [putRow, mapBlock, Sort.ahead, Array.getElem?_modify, hb, onCells]
  constructor
  · refine ⟨putCells encU 0 d' cur, e, (0, 0), by rw [heap_grow_old _ _ (by simpa using hlt)]; exact hbl, by simp [putCells]; omega, fun i v hv => ?_⟩
    rw [List.getElem?_map] at hv
    have hi : i < d'.size := by
      cases hx : d'.toList[i]? with
      | none => rw [hx] at hv; cases hv
      | some x => simpa using (List.getElem?_eq_some_iff.1 hx).1
    simp only [Array.getElem?_toList, Array.getElem?_eq_getElem hi, Option.map_some, Option.some.injEq] at hv
    have hic : i < cur.size := by omega
    simp only [Nat.zero_add, putCells, Array.getElem?_mapIdx, Array.getElem?_eq_getElem hic, Option.map_some, Nat.zero_le, true_and, if_pos hi, Nat.sub_zero]
    rw [getElem!_pos d' i hi, hv]
  · refine ⟨rfl, rfl, rfl, by simp, fun k hk hne => ?_⟩
    rw [heap_grow_old _ _ (by simpa using hk)]
    have : blk ≠ k := fun e => hne e.symm
    simp [putRow, mapBlock, Sort.ahead, Array.getElem?_modify, this]
theorem tiny_sorted : ∀ (zs : List Int), zs.length ≤ 1 → zs.Pairwise (fun x y => x ≤ y)
  | [], _ => List.Pairwise.nil
  | [_], _ => List.pairwise_singleton _ _
theorem fn_sortTiny (p : Option Addr) (n c : Nat) (h1 : n ≤ 1) (Bs : Nat) (w : World) :
    Calls Tryz.prog 109 #[.iface 157 (.slice p n c), .func (.func 110) #[] #[.pointer (some ⟨Bs, 0, none⟩)]] w fun e w' => e = .returned (.tuple #[]) ∧ ∃ os, w' = grow w os := by
  have hK : Lib.swapperK n siE 10 = n + 1 := by
    rcases Nat.eq_zero_or_pos n with h | h
    · subst h; simp [Lib.swapperK]
    · obtain rfl : n = 1 := by omega
      simp [Lib.swapperK]
  exact Any.sort_Slice_tiny Tryz.gl6 157 59 siT siE (by kernel_rfl) (by kernel_rfl) (by kernel_rfl) (by kernel_rfl) 10 (fun _ => by kernel_rfl) p n c h1 (116 + n) (by
    rw [hK]
    rcases Nat.eq_zero_or_pos n with h | h
    · subst h; kernel_rfl
    · obtain rfl : n = 1 := by omega
      kernel_rfl) (.func 110) #[] #[.pointer (some ⟨Bs, 0, none⟩)] w
set_option maxHeartbeats 2000000 in
theorem fn_sort (w : World) (B blk cap Bs : Nat) (e0 : TypeId) (zs : List Int) (hlen : zs.length < 4611686018427387904) (hbs : Box w Bs [.slice (some ⟨blk, 0, none⟩) zs.length cap] e0)
    (hrow : w.ownsRow B 59 1 (.slice (some ⟨blk, 0, none⟩) zs.length cap) zs.length (zs.map encU)) (hne : Bs ≠ blk) :
    Calls Tryz.prog 109 #[.iface 157 (.slice (some ⟨blk, 0, none⟩) zs.length cap), .func (.func 110) #[] #[.pointer (some ⟨Bs, 0, none⟩)]] w fun e w' =>
      e = .returned (.tuple #[]) ∧ ∃ zs' : List Int, zs'.Perm zs ∧ zs'.Pairwise (fun x y => x ≤ y) ∧ YL w' blk 0 (zs'.map encU) ∧ Chg (· = blk) w w' := by
  have hH := holds_row hrow
  obtain ⟨hxl, ⟨he, _⟩ | ⟨g, cap', cur, he, hBg, hheap, hle, hcap, hcs, htake⟩⟩ := id hrow
  · cases he
  cases he
  have hblk : blk < w.heap.size := (Array.getElem?_eq_some_iff.1 hheap).1
  have hsz : zs.toArray.size = zs.length := by simp
  by_cases h2 : 2 ≤ zs.length
  · have hless : LessReads Tryz.prog 110 #[.pointer (some ⟨Bs, 0, none⟩)] encU ltInt blk 0 zs.toArray.size w := by
      intro m os dk hs i j hi hj
      rw [hsz] at hs hi hj
      refine less_u32 blk 0 cap Bs zs.length _ (fun t => dk[t]!) ?_ (fun t ht => ?_) i j hi hj
      · unfold sortWorld
        rw [cell?_grow _ _ _ (by simpa using hbs.lt), cell?_putRow_other _ _ blk 0 dk _ (Or.inl hne)]
        exact hbs.cell (i := 0) rfl
      · unfold sortWorld
        rw [cell?_grow _ _ _ (by simpa using hblk)]
        exact cell?_putRow encU (Sort.ahead w m) blk 0 zs.toArray dk (holds_ahead _ _ _ _ _ _ hH) (by rw [hs, hsz]) t (by omega)
    have hS := Any.sort_Slice_sorted Tryz.gl6 157 59 siT siE (by kernel_rfl) (by kernel_rfl) (by kernel_rfl) (by kernel_rfl) 10 (fun _ => by kernel_rfl) (by kernel_rfl) (fun _ => by kernel_rfl) encU (fun _ => rfl) ltInt swo_ltInt 110 _
      (enters_of Tryz.func110 (by kernel_rfl) rfl) blk 0 cap zs.toArray (by rw [hsz]; exact h2) (by rw [hsz]; exact hlen) 121 (by rw [hsz, siK _ h2]; kernel_rfl) true
      (fun args W => run_callFunc_extern Tryz.func121 (by kernel_rfl) (by kernel_rfl) (by kernel_rfl) (e := Extern.ReflectliteSwapper.swap true) (by kernel_rfl) args W) w hless hH hblk
    change Calls Tryz.prog 109 _ _ _ at hS
    rw [hsz] at hS
    refine hS.mono (fun e w' h => ?_)
    obtain ⟨h1, d', n, os, hp, hso, hw⟩ := h
    have hd : d'.size = zs.length := by rw [hp.1, hsz]
    refine ⟨h1, d'.toList, ?_, ?_, ?_⟩
    · have := hp.2.2
      rw [← hd] at this
      have e1 : d'.toList.take zs.length = d'.toList := List.take_of_length_le (by simp; omega)
      simpa [hd, e1] using this
    · rw [List.pairwise_iff_getElem]
      intro i j hi hj hij
      have hi' : i < d'.size := by simpa using hi
      have hj' : j < d'.size := by simpa using hj
      have := hso i j (Nat.zero_le _) hij (by omega)
      rw [getElem!_pos d' i hi', getElem!_pos d' j hj'] at this
      simp only [ltInt, decide_eq_false_iff_not] at this
      simp only [Array.getElem_toList]
      omega
    · exact sorted_row hheap (by rw [hcs, hd]; omega) hw
  · have hn : zs.length ≤ 1 := by omega
    have hS := fn_sortTiny (some ⟨blk, 0, none⟩) zs.length cap hn Bs w
    refine hS.mono (fun e w' h => ?_)
    obtain ⟨h1, os, hw⟩ := h
    refine ⟨h1, zs, List.Perm.refl _, ?_, ?_⟩
    · exact tiny_sorted zs hn
    · subst hw
      refine ⟨⟨cur, 59, (0, 0), by rw [heap_grow_old _ _ hblk]; exact hheap, by rw [List.length_map]; omega, fun i v hv => ?_⟩, ⟨rfl, rfl, rfl, by simp, fun k hk _ => heap_grow_old _ _ hk⟩⟩
      rw [← htake, List.getElem?_take] at hv
      split at hv
      · simpa using hv
      · cases hv
end Go.Proofs.YtmihblfjhoblmaaGreatDoor.Rdk

/- Ranging over tags in a map, by rising numbers: the rules that this wants, and the plain facts. Over any program. -/
namespace Go.Proofs.YtmihblfjhoblmaaGreatDoor
open Go Go.RowKit

section
variable {P : Program} {ops : Array Oper} {Q : Exit → Act → World → Prop} {N : Nat} {rest : List Oper} {L : Sl} {w : World} {d : Nat} {ty : TypeId} {pos : String} {aft : Array Edge}
/-- A call of a function value. -/
theorem wl_callV {x : Operand} {f : FuncId} {bs vs : List Value} {args : List Operand} {ats : Array TypeId} (hx : ev L x = some (.func (.func f) #[] bs.toArray)) (ha : evs L args = some vs) (hf : Uq P f = true) (hd : Nat.blt d N = true)
    (hc : Calls P f (vs ++ bs).toArray w fun e w' => ∃ v, e = .returned v ∧ WL rest P ops Q N ((d, v) :: L) w') :
    WL (⟨some d, .call ⟨.value x, args.toArray, ats⟩, ty, pos, aft, none⟩ :: rest) P ops Q N L w := by
  intro a k
  refine wpList_plain rfl (fun K hK => ?_)
  unfold Oper.wp
  have hargs : args.toArray.map a.eval = vs.toArray := by rw [List.map_toArray, k.evals ha]
  have hr : (execOp a.eval ⟨some d, .call ⟨.value x, args.toArray, ats⟩, ty, pos, aft, none⟩).run P w = .ok (.enter f (vs ++ bs).toArray) w := by
    unfold Uq at hf
    cases hfn : P.funcs[f]? with
    | none => simp [hfn] at hf
    | some fn =>
      simp [hfn] at hf
      have h2 : fn.body ≠ none := by intro e; simp [e] at hf
      have h3 := hf.1
      simp only [execOp, resolve, Deferred.ofValue, k.eval hx, hargs, Sem.run_bind, Sem.run_pure, Result.andThen_ok, invoke, callFunc, run_program, hfn]
      simp [h3, h2]
  rw [hr]
  refine hc.mono (fun e w' he => ?_)
  obtain ⟨v, rfl, hv⟩ := he
  exact hK _ _ (hv _ (k.put v hd))
theorem Jo {f : FuncId} {caps : List Operand} {vs : List Value} (ha : evs L caps = some vs) (hd : Nat.blt d N = true) (h : WL rest P ops Q N ((d, .func (.func f) #[] vs.toArray) :: L) w) :
    WL (⟨some d, .makeFunc (.func f) #[] caps.toArray, ty, pos, aft, none⟩ :: rest) P ops Q N L w := by
  intro a k
  refine YR (o := ⟨some d, .makeFunc (.func f) #[] caps.toArray, ty, pos, aft, none⟩) (v := .func (.func f) #[] vs.toArray) (w' := w) rfl ?_ (h _ (k.put _ hd))
  have hargs : caps.toArray.map a.eval = vs.toArray := by rw [List.map_toArray, k.evals ha]
  simp [execOp, Instr.makeFunc, hargs]
theorem wl_makeIface {x : Operand} {t e : TypeId} {v : Value} (hx : ev L x = some v) (hu : P.underlying t = some (.slice e)) (hd : Nat.blt d N = true) (h : WL rest P ops Q N ((d, .iface t v) :: L) w) :
    WL (⟨some d, .makeInterface t x, ty, pos, aft, none⟩ :: rest) P ops Q N L w := by
  intro a k
  refine YR (o := ⟨some d, .makeInterface t x, ty, pos, aft, none⟩) (v := .iface t v) (w' := w) rfl ?_ (h _ (k.put _ hd))
  simp [execOp, Instr.makeInterface, run_underlying hu, k.eval hx]
theorem wl_extract {x : Operand} {i : Nat} {vs : Array Value} {v : Value} (hx : ev L x = some (.tuple vs)) (hv : vs[i]? = some v) (hd : Nat.blt d N = true) (h : WL rest P ops Q N ((d, v) :: L) w) :
    WL (⟨some d, .extract x i, ty, pos, aft, none⟩ :: rest) P ops Q N L w := by
  intro a k
  refine YR (o := ⟨some d, .extract x i, ty, pos, aft, none⟩) (v := v) (w' := w) rfl ?_ (h _ (k.put _ hd))
  simp [execOp, Instr.extract, k.eval hx, hv]
theorem wl_range {x : Operand} {t kt et bm clock : Nat} {es : Array MapEntry} (hx : ev L x = some (.map (some bm))) (hu : P.underlying t = some (.map kt et)) (hb : w.heap[bm]? = some (.map es clock)) (hd : Nat.blt d N = true)
    (h : WL rest P ops Q N ((d, .pointer (some ⟨w.heap.size, 0, none⟩)) :: L) (w.alloc (.mapIter (some bm) clock #[] clock))) : WL (⟨some d, .range t x, ty, pos, aft, none⟩ :: rest) P ops Q N L w := by
  intro a k
  refine YR (o := ⟨some d, .range t x, ty, pos, aft, none⟩) (v := .pointer (some ⟨w.heap.size, 0, none⟩)) (w' := w.alloc (.mapIter (some bm) clock #[] clock)) rfl ?_ (h _ (k.put _ hd))
  simp [execOp, k.eval hx, run_range_map w t kt et bm es clock hu hb]
theorem wl_next {x : Operand} {r bm since c0 clock : Nat} {seen : Array Nat} {es : Array MapEntry} (hx : ev L x = some (.pointer (some ⟨r, 0, none⟩))) (hr : w.heap[r]? = some (.mapIter (some bm) since seen c0)) (hb : w.heap[bm]? = some (.map es clock)) (hold : ∀ x ∈ es.toList, x.born < since) (hsc : since ≤ c0) (hd : Nat.blt d N = true)
    (h0 : (leftOf es seen).size = 0 → WL rest P ops Q N ((d, .tuple #[.bool false]) :: L) w)
    (h1 : ∀ e ∈ (leftOf es seen).toList, ∀ w', w'.heap[r]? = some (.mapIter (some bm) since (seen.push e.born) clock) → Chg (· = r) w w' → w'.heap.size = w.heap.size → WL rest P ops Q N ((d, .tuple #[.bool true, e.key, e.val]) :: L) w') :
    WL (⟨some d, .next x false, ty, pos, aft, none⟩ :: rest) P ops Q N L w := by
  intro a k
  have hlt : r < w.heap.size := (Array.getElem?_eq_some_iff.1 hr).1
  rcases run_next_at (P := P) w ty r bm since c0 seen es clock hr hb hold hsc with ⟨hz, hrun⟩ | ⟨e, he, w1, hw1, hrun⟩
  · refine YR (o := ⟨some d, .next x false, ty, pos, aft, none⟩) (v := .tuple #[.bool false]) (w' := w) rfl ?_ (h0 hz _ (k.put _ hd))
    simp [execOp, k.eval hx, hrun]
  · refine YR (o := ⟨some d, .next x false, ty, pos, aft, none⟩) (v := .tuple #[.bool true, e.key, e.val]) (w' := Go.ChangeMaps.setBlock w1 r (.mapIter (some bm) since (seen.push e.born) clock)) rfl ?_ (h1 e he _ ?_ ?_ ?_ _ (k.put _ hd))
    · simp [execOp, k.eval hx, hrun]
    · rcases hw1 with rfl | rfl <;> simp [Go.ChangeMaps.setBlock, hlt]
    · rcases hw1 with rfl | rfl <;> exact ⟨rfl, rfl, rfl, by simp [Go.ChangeMaps.setBlock], fun j _ hn => by
        have : r ≠ j := fun e => hn e.symm
        simp [Go.ChangeMaps.setBlock, this] <;> rfl⟩
    · rcases hw1 with rfl | rfl <;> simp [Go.ChangeMaps.setBlock]
theorem wl_entry {x : Operand} {r bm since clock : Nat} {seen : Array Nat} {es : Array MapEntry} {e : MapEntry} (hx : ev L x = some (.pointer (some ⟨r, 0, none⟩))) (hr : w.heap[r]? = some (.mapIter (some bm) since (seen.push e.born) clock)) (hb : w.heap[bm]? = some (.map es clock)) (he : e ∈ es.toList) (hn : (es.toList.map (·.born)).Nodup) (hd : Nat.blt d N = true)
    (h : WL rest P ops Q N ((d, .tuple #[e.key, e.val]) :: L) w) : WL (⟨some d, .entry x, ty, pos, aft, none⟩ :: rest) P ops Q N L w := by
  intro a k
  refine YR (o := ⟨some d, .entry x, ty, pos, aft, none⟩) (v := .tuple #[e.key, e.val]) (w' := w) rfl ?_ (h _ (k.put _ hd))
  simp [execOp, k.eval hx, run_entry_at w r bm since seen es clock e hr hb he hn]
/-- A row with room for n elements, none in it yet. -/
theorem wl_makeRow {t e sz B n : Nat} {kl kc : IntKind} {x : Operand} (hT : Yc1 P t e sz = true) (hx : ev L x = some (.int kc (n : Int))) (hn : n ≤ many) (hd : Nat.blt d N = true) (hB : B ≤ w.heap.size)
    (h : ∀ w', w'.ownsRow B e sz (.slice (some ⟨w.heap.size, 0, none⟩) 0 n) 0 [] → w.grownBy w' none → w'.heap.size = w.heap.size + 1 → WL rest P ops Q N ((d, .slice (some ⟨w.heap.size, 0, none⟩) 0 n) :: L) w') :
    WL (⟨some d, .makeSlice t (.const (.int kl 0)) x, ty, pos, aft, none⟩ :: rest) P ops Q N L w := by
  intro a k
  obtain ⟨hu, i, z, hi, hs1, hb1, hz, hzc⟩ := JU hT
  have hm : i.bytes * n ≤ 281474976710656 := by have := Nat.mul_le_mul hb1 hn; simp only [many] at this; omega
  have h63 : n ≤ maxLen := by simp only [many, maxLen] at *; omega
  have h63' : (n : Int) ≤ 9223372036854775807 := by simp only [maxLen] at h63; omega
  have hb' : (i.bytes : Int) * (n : Int) ≤ 281474976710656 := by
    have h : ((i.bytes * n : Nat) : Int) ≤ 281474976710656 := by omega
    rwa [Int.natCast_mul] at h
  have hr := run_make (P := P) w t e i z hu hi hz kl kc 0 n (Int.le_refl _) (by omega) hb' h63'
  simp only [Int.toNat_zero, Int.toNat_natCast] at hr
  refine YR (o := ⟨some d, .makeSlice t (.const (.int kl 0)) x, ty, pos, aft, none⟩) (w' := w.alloc (.cells (madeCells z.cells (n * i.size)) e)) rfl ?_ (h _ (by rw [← hs1]; exact World.ownsRow_made w _ n hB h63 (size_madeCells _ _)) (World.grownBy_alloc w _ none) (by simp) _ (k.put _ hd))
  simp only [execOp, XG, k.eval hx, Sem.run_bind, hr, Result.andThen_ok, Sem.run_pure]
/-- What lies under a key. -/
theorem wl_lookup {x y : Operand} {t kt et bm clock key : Nat} {es : Array MapEntry} {ks : List Nat} (hx : ev L x = some (.map (some bm))) (hy : ev L y = some (.int .u32 (key : Int))) (hu : P.underlying t = some (.map kt et)) (hk : P.underlying kt = some (.int .u32)) (hb : w.heap[bm]? = some (.map es clock)) (hm : Mapped es clock ks) (hin : ∃ e ∈ es, e.key = .int .u32 (key : Int)) (hd : Nat.blt d N = true)
    (h : ∀ e ∈ es, e.key = .int .u32 (key : Int) → WL rest P ops Q N ((d, e.val) :: L) w) : WL (⟨some d, .lookup t x y false, ty, pos, aft, none⟩ :: rest) P ops Q N L w := by
  intro a k
  have hik : MapKept.IsKey (.int .u32) (.int .u32 (key : Int)) := rfl
  have hks : ∀ x ∈ es.toList, MapKept.IsKey (.int .u32) x.key := fun x hx => by
    obtain ⟨k, _, e⟩ := hm.2.2.1 x hx
    rw [e]; rfl
  rcases MapKept.findNow_spec hik es.toList 0 hks with ⟨_, g2⟩ | ⟨j, e, g1, g2, g3⟩
  · obtain ⟨e, he, hek⟩ := hin
    exact absurd hek (g2 e (Array.mem_toList_iff.2 he))
  · have hj : es[j]? = some e := by simpa using g2
    refine YR (o := ⟨some d, .lookup t x y false, ty, pos, aft, none⟩) (v := e.val) (w' := w) rfl ?_ (h e (Array.mem_of_getElem? hj) g3 _ (k.put _ hd))
    simp [execOp, k.eval hx, k.eval hy, Instr.lookup, run_underlying hu, MapKept.run_getObj_map hb, MapKept.run_checkKey hk hik, MapKept.run_findKey hk g1, Result.andThen]
end

/-- Two rows with the same numbers, Ye1 rising, are one. -/
theorem sorted_one : ∀ (a b : List Int), a.Perm b → a.Pairwise (fun x y => x ≤ y) → b.Pairwise (fun x y => x ≤ y) → a = b
  | [], b, h, _, _ => (List.Perm.nil_eq h)
  | x :: a, [], h, _, _ => by have := h.length_eq; simp at this
  | x :: a, y :: b, h, ha, hb => by
    have ha' := List.pairwise_cons.1 ha
    have hb' := List.pairwise_cons.1 hb
    have hx : x ∈ y :: b := h.mem_iff.1 (by simp)
    have hy : y ∈ x :: a := h.mem_iff.2 (by simp)
    have e : x = y := by
      rcases List.mem_cons.1 hx with e | hx
      · exact e
      · rcases List.mem_cons.1 hy with e | hy
        · exact e.symm
        · have := hb'.1 x hx; have := ha'.1 y hy; omega
    subst e
    rw [sorted_one a b h.cons_inv ha'.2 hb'.2]
/-- A row in which nothing comes twice, Ym3 another no longer: the same. -/
theorem perm_sub {α : Type} [DecidableEq α] : ∀ (a b : List α), a.Nodup → (∀ x ∈ a, x ∈ b) → b.length ≤ a.length → a.Perm b
  | [], b, _, _, h => by
    have : b = [] := List.length_eq_zero_iff.1 (by simpa using h)
    subst this; exact List.Perm.refl _
  | x :: a, b, hn, hs, hl => by
    have hn' := List.nodup_cons.1 hn
    have hx : x ∈ b := hs x (by simp)
    have h1 := List.perm_cons_erase hx
    refine (List.Perm.cons x (perm_sub a (b.erase x) hn'.2 (fun y hy => ?_) ?_)).trans h1.symm
    · exact (List.mem_erase_of_ne (fun e => hn'.1 (by rw [← e]; exact hy))).2 (hs y (by simp [hy]))
    · rw [List.length_erase_of_mem hx]; simp at hl; omega
/-- One more entry has been handed out. -/
theorem leftOf_push {es : Array MapEntry} {seen : Array Nat} {e : MapEntry} (he : e ∈ (leftOf es seen).toList) (hn : (es.toList.map (·.born)).Nodup) : (leftOf es seen).toList.Perm (e :: (leftOf es (seen.push e.born)).toList) := by
  have h1 : (leftOf es (seen.push e.born)).toList = (leftOf es seen).toList.filter (fun x => x.born != e.born) := by
    simp only [leftOf, Array.toList_filter, List.filter_filter]
    apply List.filter_congr
    intro x _
    simp only [Array.contains_push]
    cases hb : (x.born == e.born) <;> cases seen.contains x.born <;> simp_all
  rw [h1]
  have hnd : ((leftOf es seen).toList.map (·.born)).Nodup := by
    simp only [leftOf, Array.toList_filter]
    exact (List.filter_sublist.map _).nodup hn
  generalize (leftOf es seen).toList = l at he hnd
  induction l with
  | nil => cases he
  | cons y l ih =>
    simp only [List.map_cons, List.nodup_cons] at hnd
    rcases List.mem_cons.1 he with rfl | he
    · have hall : l.filter (fun x => x.born != e.born) = l := by
        refine List.filter_eq_self.2 (fun x hx => ?_)
        have : x.born ≠ e.born := fun h => hnd.1 (by rw [← h]; exact List.mem_map.2 ⟨x, hx, rfl⟩)
        simpa using this
      rw [List.filter_cons, if_neg (by simp), hall]
    · have hne : y.born ≠ e.born := fun h => hnd.1 (by rw [h]; exact List.mem_map.2 ⟨e, he, rfl⟩)
      rw [List.filter_cons, if_pos (by simpa using hne)]
      exact (List.Perm.cons y (ih he hnd.2)).trans (List.Perm.swap _ _ _)
def intOf : Value → Int
  | .int _ n => n
  | _ => 0
/-- The keys that were handed out, sorted, are the tags' numbers. -/
theorem keys_sorted {es : Array MapEntry} {clock : Nat} {ks : List Nat} {zs zs' : List Int} (hm : Mapped es clock ks) (hk : ∀ k ∈ ks, ∃ e ∈ es, e.key = .int .u32 (k : Int)) (hz : (zs.map (Value.int .u32)).Perm (es.toList.map (·.key))) (hp : zs'.Perm zs) (hs : zs'.Pairwise (fun x y => x ≤ y)) : zs' = ks.map (fun k : Nat => (k : Int)) := by
  have h1 : (ks.map (fun k : Nat => (k : Int))).Perm (es.toList.map (fun e => intOf e.key)) := by
    refine perm_sub _ _ ?_ ?_ ?_
    · refine List.pairwise_map.2 (hm.2.2.2.imp (fun h e => by omega))
    · intro x hx
      obtain ⟨k, hk', rfl⟩ := List.mem_map.1 hx
      obtain ⟨e, he, hek⟩ := hk k hk'
      exact List.mem_map.2 ⟨e, Array.mem_toList_iff.2 he, by rw [hek]; rfl⟩
    · simp [hm.1]
  have h2 : zs.Perm (es.toList.map (fun e => intOf e.key)) := by
    have := hz.map intOf
    simpa [List.map_map, Function.comp_def, intOf] using this
  exact sorted_one _ _ ((hp.trans h2).trans h1.symm) hs (List.pairwise_map.2 (hm.2.2.2.imp (fun h => by omega)))
/-- The tags' octets, one by one. -/
theorem semT_at : ∀ (kvs : List (Nat × D)) (ys : List UInt8), semT kvs = some ys → ∀ i (h : i < kvs.length), ∃ pre cs post, semT (kvs.take i) = some pre ∧ ((sliceOf kvs[i].2).bind fun s => bytesOf s.2) = some cs ∧ kvs[i].1 < 4294967296 ∧ cs.length < 2147483648 ∧
    semT (kvs.take (i + 1)) = some (pre ++ (uvar kvs[i].1 ++ uvar cs.length ++ cs)) ∧ ys = pre ++ (uvar kvs[i].1 ++ uvar cs.length ++ cs) ++ post
  | [], _, _, i, h => by cases h
  | kv :: r, ys, hs, i, h => by
    simp only [semT] at hs
    split at hs
    · rename_i cs b hc hb
      split at hs
      · rename_i hlt
        cases hs
        cases i with
        | zero =>
          refine ⟨[], cs, b, by simp [semT], by simpa using hc, hlt.1, hlt.2, ?_, by simp⟩
          simp [semT, hc, hlt]
        | succ i =>
          obtain ⟨pre, cs', post, k1, k2, k3, k4, k5, k6⟩ := semT_at r b hb i (by simpa using h)
          refine ⟨uvar kv.1 ++ uvar cs.length ++ cs ++ pre, cs', post, ?_, by simpa using k2, by simpa using k3, k4, ?_, ?_⟩
          · simp only [List.take_succ_cons, semT, hc, k1, if_pos hlt]
          · simp only [List.take_succ_cons, semT, hc, k5, if_pos hlt, List.getElem_cons_succ, List.append_assoc]
          · rw [k6]; simp [List.append_assoc]
      · cases hs
    · cases hs
end Go.Proofs.YtmihblfjhoblmaaGreatDoor

/- Tags.AppendEach at the seat: the tags' octets, by rising numbers. -/
namespace Go.Proofs.YtmihblfjhoblmaaGreatDoor.Rdk
open Go Go.RowKit

set_option maxRecDepth 100000
/-- Nothing has turned but block bx, d's own block and new ones. -/
structure GrewB (bx : Nat) (w w' : World) (d d' : Value) : Prop where
  chg : Chg (fun j => j = bx ∨ d.ownBlock = some j) w w'
  fresh : d'.ownBlock = d.ownBlock ∨ ∀ g, d'.ownBlock = some g → w.heap.size ≤ g
theorem Own.under {w w' : World} {B u8 : Nat} {d : Value} {xs : List UInt8} (h : Own w B u8 d xs) (hb : Below w.heap.size w w') : Own w' B u8 d xs := by
  refine h.kept (Jb hb) ?_
  cases hd : d.ownBlock with
  | none => exact .inl rfl
  | some g => exact .inr (by simp)
/-- What is owned is a slice of octets. -/
theorem GrewB.refl (bx : Nat) (w : World) (d : Value) : GrewB bx w w d d := ⟨Chg.refl _ _, .inl rfl⟩
theorem GrewB.trans {bx : Nat} {a b c : World} {d e f : Value} (h : GrewB bx a b d e) (k : GrewB bx b c e f) : GrewB bx a c d f := by
  refine ⟨⟨k.chg.os.trans h.chg.os, k.chg.tape.trans h.chg.tape, k.chg.output.trans h.chg.output, Nat.le_trans h.chg.size k.chg.size, fun i hi hne => ?_⟩, ?_⟩
  · rw [← h.chg.block i hi hne]
    refine k.chg.block i (Nat.lt_of_lt_of_le hi h.chg.size) (fun e' => ?_)
    rcases e' with e' | e'
    · exact hne (.inl e')
    · rcases h.fresh with hf | hf
      · exact hne (.inr (hf.symm.trans e'))
      · have := hf i e'; omega
  · rcases k.fresh with kf | kf
    · rcases h.fresh with hf | hf
      · exact .inl (kf.trans hf)
      · exact .inr (fun g hg => hf g (kf ▸ hg))
    · exact .inr (fun g hg => Nat.le_trans h.chg.size (kf g hg))
theorem GrewB.grew {bx : Nat} {w w' : World} {d d' : Value} (h : Grew w w' d d') : GrewB bx w w' d d' :=
  ⟨⟨h.grown.os, h.grown.tape, h.grown.output, h.grown.size, fun k hk hn => h.grown.block k hk (fun e => hn (.inr e.symm))⟩, h.fresh⟩
theorem GrewB.stored {bx : Nat} {w w' : World} (d : Value) (h : w.grownBy w' (some bx)) : GrewB bx w w' d d := ⟨(Chg.grown h).wide (fun _ h => .inl h), .inl rfl⟩
theorem GrewB.ne {bx : Nat} {w w' : World} {d d' : Value} (h : GrewB bx w w' d d') (hne : d.ownBlock ≠ some bx) (hlt : bx < w.heap.size) : d'.ownBlock ≠ some bx := by
  rcases h.fresh with hf | hf
  · rw [hf]; exact hne
  · intro e; have := hf bx e; omega
theorem Src.chg {S : Nat → Prop} {w w' : World} {B : Nat} {v : Value} {ys : List UInt8} (h : Src w B v ys) (hc : Chg S w w') (hS : ∀ j, j < B → ¬ S j) (hB : B ≤ w.heap.size) : Src w' B v ys := by
  refine ⟨?_, h.2⟩
  rcases h.1 with ⟨a, c, rfl, rfl⟩ | ⟨b, off, c, rfl, hcs⟩
  · exact .inl ⟨a, c, rfl, rfl⟩
  · rcases h.2 with rfl | h2
    · exact .inl ⟨_, _, rfl, rfl⟩
    have hb : b < B := h2 b rfl
    exact .inr ⟨b, off, c, rfl, hcs.of_block (hc.block b (by omega) (hS b hb))⟩
theorem GrewB.low {bx B : Nat} {w w' : World} {d d' : Value} (h : GrewB bx w w' d d') (hBx : B ≤ bx) (hd : ∀ g, d.ownBlock = some g → B ≤ g) (hB : B ≤ w.heap.size) : Below B w w' :=
  ⟨h.chg.os, h.chg.tape, h.chg.output, h.chg.size, fun k hk => h.chg.block k (by omega) (fun e => by
    rcases e with e | e
    · omega
    · have := hd k e; omega)⟩
theorem own_one {w : World} {B u8 : Nat} {d : Value} {xs : List UInt8} (h : Own w B u8 d xs) : d.oneCell' = true := by
  obtain ⟨a, c, rfl⟩ := h.shape
  rfl
set_option maxHeartbeats 1000000 in
theorem fn_put1 (w : World) (bx B k : Nat) (val d : Value) (xs cs : List UInt8) (e : TypeId) (hbx : Box w bx [d] e) (hBx : B ≤ bx) (ho : Own w B 5 d xs) (hB : B ≤ w.heap.size) (hne : d.ownBlock ≠ some bx) (hv : Src w B val cs) (hk : k < 4294967296) (hc : cs.length < 2147483648)
    (hl : xs.length + (uvar k ++ uvar cs.length ++ cs).length ≤ lim) :
    Calls Tryz.prog 107 #[.int .u32 (k : Int), val, .pointer (some ⟨bx, 0, none⟩)] w fun en w' => en = .returned (.tuple #[]) ∧ ∃ d', Box w' bx [d'] e ∧ Own w' B 5 d' (xs ++ (uvar k ++ uvar cs.length ++ cs)) ∧ GrewB bx w w' d d' := by
  obtain ⟨va, vc, rfl⟩ := hv.1.shape
  simp only [List.length_append] at hl
  refine enter (vs := [.int .u32 (k : Int), .slice va cs.length vc, .pointer (some ⟨bx, 0, none⟩)]) Tryz.func107 rfl Tryz.ntmps107 rfl ?_
  repeat first|(with_reducible first|apply Yk|apply Yd|apply Ym|apply Yj|apply Yh|apply Yi|apply Yn|apply Yl|apply Ye|apply Yg|apply Yr|apply Yc|apply Yf|apply Yb|apply Ya)|((with_reducible apply ws);exact rfl;exact rfl)|((with_reducible apply Yo);exact rfl;exact rfl;exact rfl)|((with_reducible apply Yq);exact rfl;exact rfl;exact rfl;exact rfl)|((with_reducible apply Yp);exact rfl;exact rfl;exact rfl)
  refine Yv rfl to_bytes rfl hbx rfl ?_
  repeat first|(with_reducible first|apply Yk|apply Yd|apply Ym|apply Yj|apply Yh|apply Yi|apply Yn|apply Yl|apply Ye|apply Yg|apply Yr|apply Yc|apply Yf|apply Yb|apply Ya)|((with_reducible apply ws);exact rfl;exact rfl)|((with_reducible apply Yo);exact rfl;exact rfl;exact rfl)|((with_reducible apply Yq);exact rfl;exact rfl;exact rfl;exact rfl)|((with_reducible apply Yp);exact rfl;exact rfl;exact rfl)
  refine Yu rfl (by kernel_rfl) rfl ((XX k hk d w B xs trivial ho hB (by omega)).mono ?_)
  rintro en w1 ⟨d1, rfl, ho1, hg1⟩
  refine ⟨d1, rfl, ?_⟩
  have hb1 := hbx.kept hg1.grown (fun e => hne e.symm)
  have hs1 := hg1.grown.size
  refine YJ rfl rfl to_bytes (own_one ho1) hb1 rfl (fun w2 hb2 hg2 hs2 => ?_)
  have hG1 : GrewB bx w w1 d d1 := GrewB.grew hg1
  have hn1 := hG1.ne hne hbx.lt
  have ho2 := ho1.kept hg2 (.inr hn1)
  have hG2 := hG1.trans (GrewB.stored d1 hg2)
  have hsz2 : w.heap.size ≤ w2.heap.size := by omega
  repeat first|(with_reducible first|apply Yk|apply Yd|apply Ym|apply Yj|apply Yh|apply Yi|apply Yn|apply Yl|apply Ye|apply Yg|apply Yr|apply Yc|apply Yf|apply Yb|apply Ya)|((with_reducible apply ws);exact rfl;exact rfl)|((with_reducible apply Yo);exact rfl;exact rfl;exact rfl)|((with_reducible apply Yq);exact rfl;exact rfl;exact rfl;exact rfl)|((with_reducible apply Yp);exact rfl;exact rfl;exact rfl)
  refine Yv rfl to_bytes rfl hb2 rfl ?_
  repeat first|(with_reducible first|apply Yk|apply Yd|apply Ym|apply Yj|apply Yh|apply Yi|apply Yn|apply Yl|apply Ye|apply Yg|apply Yr|apply Yc|apply Yf|apply Yb|apply Ya)|((with_reducible apply ws);exact rfl;exact rfl)|((with_reducible apply Yo);exact rfl;exact rfl;exact rfl)|((with_reducible apply Yq);exact rfl;exact rfl;exact rfl;exact rfl)|((with_reducible apply Yp);exact rfl;exact rfl;exact rfl)
  refine YB .u32 rfl ti_i64 ti_u32 rfl (r := ((cs.length : Nat) : Int)) (by rw [IntKind.wrap_u32]; omega) ?_
  repeat first|(with_reducible first|apply Yk|apply Yd|apply Ym|apply Yj|apply Yh|apply Yi|apply Yn|apply Yl|apply Ye|apply Yg|apply Yr|apply Yc|apply Yf|apply Yb|apply Ya)|((with_reducible apply ws);exact rfl;exact rfl)|((with_reducible apply Yo);exact rfl;exact rfl;exact rfl)|((with_reducible apply Yq);exact rfl;exact rfl;exact rfl;exact rfl)|((with_reducible apply Yp);exact rfl;exact rfl;exact rfl)
  refine Yu rfl (by kernel_rfl) rfl ((XX cs.length (by omega) d1 w2 B _ trivial ho2 (by omega) (by rw [List.length_append]; omega)).mono ?_)
  rintro en w3 ⟨d3, rfl, ho3, hg3⟩
  refine ⟨d3, rfl, ?_⟩
  have hb3 := hb2.kept hg3.grown (fun e => hn1 e.symm)
  have hs3 := hg3.grown.size
  refine YJ rfl rfl to_bytes (own_one ho3) hb3 rfl (fun w4 hb4 hg4 hs4 => ?_)
  have hG3 := hG2.trans (GrewB.grew hg3)
  have hn3 := hG3.ne hne hbx.lt
  have ho4 := ho3.kept hg4 (.inr hn3)
  have hG4 := hG3.trans (GrewB.stored d3 hg4)
  repeat first|(with_reducible first|apply Yk|apply Yd|apply Ym|apply Yj|apply Yh|apply Yi|apply Yn|apply Yl|apply Ye|apply Yg|apply Yr|apply Yc|apply Yf|apply Yb|apply Ya)|((with_reducible apply ws);exact rfl;exact rfl)|((with_reducible apply Yo);exact rfl;exact rfl;exact rfl)|((with_reducible apply Yq);exact rfl;exact rfl;exact rfl;exact rfl)|((with_reducible apply Yp);exact rfl;exact rfl;exact rfl)
  refine Yv rfl to_bytes rfl hb4 rfl ?_
  repeat first|(with_reducible first|apply Yk|apply Yd|apply Ym|apply Yj|apply Yh|apply Yi|apply Yn|apply Yl|apply Ye|apply Yg|apply Yr|apply Yc|apply Yf|apply Yb|apply Ya)|((with_reducible apply ws);exact rfl;exact rfl)|((with_reducible apply Yo);exact rfl;exact rfl;exact rfl)|((with_reducible apply Yq);exact rfl;exact rfl;exact rfl;exact rfl)|((with_reducible apply Yp);exact rfl;exact rfl;exact rfl)
  have hv4 : Src w4 B (.slice va cs.length vc) cs := Src.chg hv hG4.chg (fun j hj e => by
    rcases e with e | e
    · omega
    · have := ho.ge j e; omega) hB
  refine YK tb_bytes tb_bytes rfl rfl rfl hv4.1 ho4 (by omega) (by simp only [List.length_append]; omega) (fun d5 w5 ho5 hg5 => ?_)
  have hb5 := hb4.kept hg5.grown (fun e => hn3 e.symm)
  have hG5 := hG4.trans (GrewB.grew hg5)
  have hn5 := hG5.ne hne hbx.lt
  refine YJ rfl rfl to_bytes (own_one ho5) hb5 rfl (fun w6 hb6 hg6 hs6 => ?_)
  have ho6 := ho5.kept hg6 (.inr hn5)
  have hG6 := hG5.trans (GrewB.stored d5 hg6)
  refine Ym ?_
  refine Jl rfl ⟨rfl, d5, hb6, ?_, hG6⟩
  simpa [List.append_assoc] using ho6

theorem rt_u32 : Yc1 Tryz.prog 157 59 1 = true := by kernel_rfl
theorem to_u32s : XS Tryz.prog 157 = true := by kernel_rfl
theorem es_u32s : YG Tryz.prog 157 = some 1 := by kernel_rfl
theorem el_u32s : (YG Tryz.prog 157).isSome = true := by kernel_rfl
theorem un_u32s : Tryz.prog.underlying 157 = some (.slice 59) := by kernel_rfl
theorem zv_u32s (w : World) : (zeroValue 157).run Tryz.prog w = .ok (.slice none 0 0) w := by kernel_rfl
theorem ne_u32s : (157 : Nat) ≠ 59 := by decide
theorem rising_len : ∀ (l : List Nat) (lo M : Nat), l.Pairwise (· < ·) → (∀ x ∈ l, lo ≤ x ∧ x < M) → l.length ≤ M - lo
  | [], _, _, _, _ => by simp
  | x :: l, lo, M, hp, h => by
    have hp' := List.pairwise_cons.1 hp
    have hx := h x (by simp)
    have := rising_len l (x + 1) M hp'.2 (fun y hy => ⟨hp'.1 y hy, (h y (by simp [hy])).2⟩)
    simp only [List.length_cons]; omega
theorem semT_keys {kvs : List (Nat × D)} {ys : List UInt8} (h : semT kvs = some ys) : ∀ k ∈ kvs.map (·.1), k < 4294967296 := by
  intro k hk
  obtain ⟨kv, hkv, rfl⟩ := List.mem_map.1 hk
  obtain ⟨i, hi, rfl⟩ := List.mem_iff_getElem.1 hkv
  obtain ⟨_, _, _, _, _, h3, _⟩ := semT_at kvs ys h i hi
  exact h3
theorem JX {w : World} {B e sz n g : Nat} {d : Value} {xs : List Value} (h : w.ownsRow B e sz d n xs) (hg : d.ownBlock = some g) : ∃ cur, w.heap[g]? = some (.cells cur e (0, 0)) := by
  rcases h.2 with ⟨rfl, _⟩ | ⟨g', cap', cur, rfl, _, hheap, _⟩
  · simp [Value.ownBlock] at hg
  · simp only [Value.ownBlock, Option.some.injEq] at hg; subst hg; exact ⟨cur, hheap⟩
theorem Row.kept {w w' : World} {B e sz n : Nat} {d : Value} {xs : List Value} {row : Option Nat} (h : w.ownsRow B e sz d n xs) (hg : w.grownBy w' row) (hne : d.ownBlock = none ∨ d.ownBlock ≠ row) : w'.ownsRow B e sz d n xs :=
  World.ownsRow.kept h hg hne
theorem nodup_one {α β : Type} (f : α → β) : ∀ (l : List α), (l.map f).Nodup → ∀ x ∈ l, ∀ y ∈ l, f x = f y → x = y
  | [], _, x, hx, _, _, _ => by cases hx
  | a :: l, hn, x, hx, y, hy, h => by
    simp only [List.map_cons, List.nodup_cons] at hn
    rcases List.mem_cons.1 hx with e1 | h1
    · rcases List.mem_cons.1 hy with e2 | h2
      · rw [e1, e2]
      · exact (hn.1 (List.mem_map.2 ⟨y, h2, by rw [← h, e1]⟩)).elim
    · rcases List.mem_cons.1 hy with e2 | h2
      · exact (hn.1 (List.mem_map.2 ⟨x, h1, by rw [h, e2]⟩)).elim
      · exact nodup_one f l hn.2 x h1 y h2 h
theorem leftOf_nil (es : Array MapEntry) : leftOf es #[] = es := by
  unfold leftOf
  exact Array.filter_eq_self.2 (by simp)
theorem arOf {B : Nat} {w : World} {d : D} {s : Bool × List D} {v : Value} (h : sliceOf d = some s) (hr : Rep (Lo B) w d [v]) : ArOk B w (.d d) v := by
  cases d <;> first | exact hr | (simp [sliceOf] at h)
set_option maxHeartbeats 4000000 in
theorem fn_each (w : World) (bx B b off : Nat) (kvs : List (Nat × D)) (v d : Value) (xs ys : List UInt8) (e : TypeId) (hs : semT kvs = some ys) (hb : b < B) (hc : w.cell? ⟨b, off, none⟩ = some v) (hr : Rep (Lo B) w (.mp kvs) [v]) (hbx : Box w bx [d] e) (hBx : B ≤ bx) (ho : Own w B 5 d xs) (hB : B ≤ w.heap.size) (hne : d.ownBlock ≠ some bx)
    (hl : xs.length + ys.length ≤ lim) :
    Calls Tryz.prog 106 #[.pointer (some ⟨b, off, none⟩), .func (.func 107) #[] #[.pointer (some ⟨bx, 0, none⟩)]] w fun en w' => en = .returned (.tuple #[]) ∧ ∃ d', Box w' bx [d'] e ∧ Own w' B 5 d' (xs ++ ys) ∧ GrewB bx w w' d d' := by
  obtain ⟨m, rfl, hm⟩ := mp_len hr
  refine enter (vs := [.pointer (some ⟨b, off, none⟩), .func (.func 107) #[] #[.pointer (some ⟨bx, 0, none⟩)]]) Tryz.func106 rfl Tryz.ntmps106 rfl ?_
  refine Yk (Yk (Yd ?_))
  refine wt rfl rfl ?_
  refine wt rfl rfl ?_
  refine wt rfl rfl ?_
  refine Xl rfl to_map rfl hc ?_
  refine Ye8 rfl um hm rfl ?_
  refine wt rfl rfl ?_
  refine Ym (Yj ?_)
  by_cases hz : kvs = []
  · subst hz
    simp only [semT, Option.some.injEq] at hs
    subst hs
    refine Yz rfl rfl (Yn (Ye (qk_ret0 rfl ⟨rfl, d, hbx, by simpa using ho, GrewB.refl _ _ _⟩)))
  have hpos : 0 < kvs.length := List.length_pos_iff.2 hz
  refine YE rfl (by simp; omega) (Yi (Yj ?_))
  simp only [Rep] at hr
  rcases hr with ⟨_, h0⟩ | ⟨r, es, clock, hrm, hrB, hmap, hmapd, hks⟩
  · exact absurd h0 hz
  simp only [List.cons.injEq, Value.map.injEq, and_true] at hrm
  subst hrm
  rw [Jy] at hks
  have hkeys := semT_keys hs
  have hlen32 : kvs.length ≤ 4294967296 := by
    have := rising_len (kvs.map (·.1)) 0 4294967296 hmapd.2.2.2 (fun x hx => ⟨Nat.zero_le _, hkeys x hx⟩)
    simpa using this
  have hbw : b < w.heap.size := by omega
  have hrw : r < w.heap.size := by have : r < B := hrB; omega
  refine Yk (Yd ?_)
  refine wt rfl rfl ?_
  refine wt rfl rfl ?_
  refine wt rfl rfl ?_
  refine Xl rfl to_map rfl hc ?_
  refine Ye8 rfl um hm rfl ?_
  refine wl_makeRow (B := w.heap.size) (n := kvs.length) rt_u32 rfl (by simp only [many]; omega) rfl (Nat.le_refl _) (fun w1 hrow1 hg1 hs1 => ?_)
  refine Xu zv_u32s rfl rfl (fun w2 hb2 hg2 hs2 => ?_)
  refine YJ rfl rfl to_u32s rfl hb2 rfl (fun w3 hb3' hg3 hs3 => ?_)
  have hb3 : Box w3 w1.heap.size [.slice (some ⟨w.heap.size, 0, none⟩) 0 kvs.length] 157 := hb3'
  clear hb3'
  have hrow3 := Row.kept (Row.kept hrow1 hg2 (.inr (by simp [Value.ownBlock]))) hg3 (.inr (by simp [Value.ownBlock]; omega))
  have hc13 : Chg (fun j => w.heap.size ≤ j) w w3 := ((Chg.grown0 hg1).trans (Chg.grown0 hg2)).trans ((Chg.grown hg3).wide (fun j hj => by have : j = w1.heap.size := hj; omega))
  have hmap3 : w3.heap[r]? = some (.map es clock) := (hc13.block r hrw (by omega)).trans hmap
  have hcell3 : w3.cell? ⟨b, off, none⟩ = some (.map (some r)) := by
    rw [← hc]; simp only [World.cell?, hc13.block b hbw (by omega)]
  refine Ym (Yj ?_)
  refine Yk (Yk (Yd ?_))
  refine wt rfl rfl ?_
  refine wt rfl rfl ?_
  refine wt rfl rfl ?_
  refine Xl rfl to_map rfl hcell3 ?_
  refine wl_range rfl um hmap3 rfl ?_
  have hit4 : (w3.alloc (.mapIter (some r) clock #[] clock)).heap[w3.heap.size]? = some (.mapIter (some r) clock #[] clock) := heap_alloc_new _ _
  have hs4 : (w3.alloc (.mapIter (some r) clock #[] clock)).heap.size = w3.heap.size + 1 := by simp
  have hg4 := Vi w3 (.mapIter (some r) clock #[] clock)
  generalize w3.alloc (.mapIter (some r) clock #[] clock) = w4 at *
  have hb4 := hb3.kept hg4 (by simp)
  have hrow4 := Row.kept hrow3 hg4 (.inr (by simp [Value.ownBlock]))
  have hc14 : Chg (fun j => w.heap.size ≤ j) w w4 := hc13.trans (Chg.grown0 hg4)
  refine Ym (Yj ?_)
  refine Yh (XH (α := List Int × Value × Array Nat × Nat) (fun _ => [(0, .pointer (some ⟨b, off, none⟩)), (1, .func (.func 107) #[] #[.pointer (some ⟨bx, 0, none⟩)]), (4, .pointer (some ⟨w1.heap.size, 0, none⟩)), (24, .pointer (some ⟨w3.heap.size, 0, none⟩))])
    (fun z w' => Box w' w1.heap.size [z.2.1] 157 ∧ w'.ownsRow w.heap.size 59 1 z.2.1 z.1.length (z.1.map encU) ∧ w'.heap[w3.heap.size]? = some (.mapIter (some r) clock z.2.2.1 z.2.2.2) ∧ clock ≤ z.2.2.2 ∧
      (z.1.map encU ++ (leftOf es z.2.2.1).toList.map (·.key)).Perm (es.toList.map (·.key)) ∧ Chg (fun j => w.heap.size ≤ j) w w')
    (fun z => (leftOf es z.2.2.1).size) ([], .slice (some ⟨w.heap.size, 0, none⟩) 0 kvs.length, #[], clock) ⟨rfl, rfl, rfl, rfl, trivial⟩ ⟨hb4, hrow4, hit4, Nat.le_refl _, ?_, hc14⟩ ?_)
  · simp [leftOf_nil]
  · rintro ⟨zs, dv, seen, c0⟩ w5 ⟨hb5, hrow5, hit5, hcl5, hperm5, hc5⟩
    simp only [] at hb5 hrow5 hit5 hcl5 hperm5
    have hmap5 : w5.heap[r]? = some (.map es clock) := (hc5.block r hrw (by omega)).trans hmap
    refine Yk (Yd ?_)
    refine wl_next rfl hit5 hmap5 hmapd.2.1.1 hcl5 rfl (fun hleft => ?_) (fun en hen w6 hit6 hc6 hs6 => ?_)
    · -- nothing is left
      have hl0 : (leftOf es seen).toList = [] := List.length_eq_zero_iff.1 (by simpa using hleft)
      rw [hl0] at hperm5
      simp only [List.map_nil, List.append_nil] at hperm5
      have hzl : zs.length = kvs.length := by
        have := hperm5.length_eq
        simp only [List.length_map, Array.length_toList] at this
        rw [this, hmapd.1, List.length_map]
      obtain ⟨g, cap, rfl, hBg, hglt, _⟩ := Row.cells hrow5 (by omega)
      obtain ⟨cur, hcur⟩ := JX (g := g) hrow5 rfl
      have hog : w1.heap.size ≠ g := by
        intro e'
        have h1 : w5.heap[w1.heap.size]? = some (.cells cur 59 (0, 0)) := by rw [e']; exact hcur
        have h2 := hb5
        simp only [Box, h1, Option.some.injEq, Obj.cells.injEq] at h2
        exact ne_u32s h2.2.1.symm
      refine wl_extract rfl rfl rfl ?_
      repeat first|(with_reducible first|apply Yk|apply Yd|apply Ym|apply Yj|apply Yh|apply Yi|apply Yn|apply Yl|apply Ye|apply Yg|apply Yr|apply Yc|apply Yf|apply Yb|apply Ya)|((with_reducible apply ws);exact rfl;exact rfl)|((with_reducible apply Yo);exact rfl;exact rfl;exact rfl)|((with_reducible apply Yq);exact rfl;exact rfl;exact rfl;exact rfl)|((with_reducible apply Yp);exact rfl;exact rfl;exact rfl)
      refine YE rfl rfl ?_
      repeat first|(with_reducible first|apply Yk|apply Yd|apply Ym|apply Yj|apply Yh|apply Yi|apply Yn|apply Yl|apply Ye|apply Yg|apply Yr|apply Yc|apply Yf|apply Yb|apply Ya)|((with_reducible apply ws);exact rfl;exact rfl)|((with_reducible apply Yo);exact rfl;exact rfl;exact rfl)|((with_reducible apply Yq);exact rfl;exact rfl;exact rfl;exact rfl)|((with_reducible apply Yp);exact rfl;exact rfl;exact rfl)
      refine Yv rfl to_u32s rfl hb5 rfl ?_
      refine wl_makeIface rfl un_u32s rfl ?_
      refine Jo (caps := [.tmp 4]) rfl rfl ?_
      refine Yu rfl (by kernel_rfl) rfl ((fn_sort w5 w.heap.size g cap w1.heap.size _ zs (by omega) hb5 hrow5 hog).mono ?_)
      rintro en w6 ⟨rfl, zs', hp', hso', hcs6, hc6⟩
      refine ⟨_, rfl, ?_⟩
      have hzz : zs' = (kvs.map (·.1)).map (fun k : Nat => (k : Int)) := keys_sorted hmapd (fun k hk => by
        obtain ⟨kv, hkv, rfl⟩ := List.mem_map.1 hk
        obtain ⟨x, hx, hxk, _⟩ := hks kv hkv
        exact ⟨x, hx, hxk⟩) hperm5 hp' hso'
      subst hzz
      have hc06 : Chg (fun j => w.heap.size ≤ j) w w6 := hc5.trans (hc6.wide (fun j hj => by have : j = g := hj; omega))
      have hw6 : Below w.heap.size w w6 := ⟨hc06.os, hc06.tape, hc06.output, hc06.size, fun k hk => hc06.block k hk (by omega)⟩
      have hb6 := hb5.chg hc6 hog
      have hbx6 := hbx.chg hc06 (by have := hbx.lt; omega)
      have ho6 := Own.under ho hw6
      repeat first|(with_reducible first|apply Yk|apply Yd|apply Ym|apply Yj|apply Yh|apply Yi|apply Yn|apply Yl|apply Ye|apply Yg|apply Yr|apply Yc|apply Yf|apply Yb|apply Ya)|((with_reducible apply ws);exact rfl;exact rfl)|((with_reducible apply Yo);exact rfl;exact rfl;exact rfl)|((with_reducible apply Yq);exact rfl;exact rfl;exact rfl;exact rfl)|((with_reducible apply Yp);exact rfl;exact rfl;exact rfl)
      refine Yv rfl to_u32s rfl hb6 rfl ?_
      refine wl_len rfl el_u32s rfl ?_
      repeat first|(with_reducible first|apply Yk|apply Yd|apply Ym|apply Yj|apply Yh|apply Yi|apply Yn|apply Yl|apply Ye|apply Yg|apply Yr|apply Yc|apply Yf|apply Yb|apply Ya)|((with_reducible apply ws);exact rfl;exact rfl)|((with_reducible apply Yo);exact rfl;exact rfl;exact rfl)|((with_reducible apply Yq);exact rfl;exact rfl;exact rfl;exact rfl)|((with_reducible apply Yp);exact rfl;exact rfl;exact rfl)
      refine XH (α := Nat × Value) (fun z => [(0, .pointer (some ⟨b, off, none⟩)), (1, .func (.func 107) #[] #[.pointer (some ⟨bx, 0, none⟩)]), (37, .slice (some ⟨g, 0, none⟩) zs.length cap), (38, .int .i64 (zs.length : Int)), (39, .int .i64 (z.1 : Int))])
        (fun z w' => z.1 ≤ kvs.length ∧ Box w' bx [z.2] e ∧ (∃ pre, semT (kvs.take z.1) = some pre ∧ Own w' B 5 z.2 (xs ++ pre)) ∧ GrewB bx w6 w' d z.2)
        (fun z => kvs.length - z.1) (0, d) ⟨rfl, rfl, rfl, rfl, rfl, trivial⟩ ⟨Nat.zero_le _, hbx6, ⟨[], by simp [semT], by simpa using ho6⟩, GrewB.refl _ _ _⟩ ?_
      rintro ⟨i, di⟩ w7 ⟨hin, hb7, ⟨pre, hpre, ho7⟩, hG7⟩
      simp only [] at hin hb7 hpre ho7 hG7
      have hs7 := hG7.chg.size
      have hs6 := hc06.size
      repeat first|(with_reducible first|apply Yk|apply Yd|apply Ym|apply Yj|apply Yh|apply Yi|apply Yn|apply Yl|apply Ye|apply Yg|apply Yr|apply Yc|apply Yf|apply Yb|apply Ya)|((with_reducible apply ws);exact rfl;exact rfl)|((with_reducible apply Yo);exact rfl;exact rfl;exact rfl)|((with_reducible apply Yq);exact rfl;exact rfl;exact rfl;exact rfl)|((with_reducible apply Yp);exact rfl;exact rfl;exact rfl)
      by_cases hi : i < kvs.length
      · refine Yz rfl (by simp; omega) ?_
        repeat first|(with_reducible first|apply Yk|apply Yd|apply Ym|apply Yj|apply Yh|apply Yi|apply Yn|apply Yl|apply Ye|apply Yg|apply Yr|apply Yc|apply Yf|apply Yb|apply Ya)|((with_reducible apply ws);exact rfl;exact rfl)|((with_reducible apply Yo);exact rfl;exact rfl;exact rfl)|((with_reducible apply Yq);exact rfl;exact rfl;exact rfl;exact rfl)|((with_reducible apply Yp);exact rfl;exact rfl;exact rfl)
        obtain ⟨pre', cs, post, k1, k2, k3, k4, k5, k6⟩ := semT_at kvs ys hs i hi
        rw [hpre] at k1
        simp only [Option.some.injEq] at k1
        subst k1
        have hkeep : ∀ j, j < w.heap.size → j ≠ bx → (B ≤ j → d.ownBlock ≠ some j) → w7.heap[j]? = w.heap[j]? := fun j hj h1 h2 => by
          rw [hG7.chg.block j (by omega) (fun h => by
            rcases h with h | h
            · exact h1 h
            · exact h2 (ho.ge j h) h)]
          exact hc06.block j hj (by omega)
        have hgk : w7.heap[g]? = w6.heap[g]? := hG7.chg.block g (by have := hc6.size; omega) (fun h => by
          rcases h with h | h
          · have := hbx.lt; omega
          · have := ho.lt g h; omega)
        refine YD rfl rfl es_u32s rfl (by omega) ?_
        refine Xl rfl to_u32 rfl (v := .int .u32 ((kvs[i].1 : Nat) : Int)) ?_ ?_
        · have h1 := (hcs6.of_block hgk).cell (i := i) (v := encU ((kvs[i].1 : Nat) : Int)) (by simp [hi])
          rw [Nat.mul_one]; exact h1
        repeat first|(with_reducible first|apply Yk|apply Yd|apply Ym|apply Yj|apply Yh|apply Yi|apply Yn|apply Yl|apply Ye|apply Yg|apply Yr|apply Yc|apply Yf|apply Yb|apply Ya)|((with_reducible apply ws);exact rfl;exact rfl)|((with_reducible apply Yo);exact rfl;exact rfl;exact rfl)|((with_reducible apply Yq);exact rfl;exact rfl;exact rfl;exact rfl)|((with_reducible apply Yp);exact rfl;exact rfl;exact rfl)
        refine wt rfl rfl ?_
        refine Xl rfl to_map rfl (v := .map (some r)) ?_ ?_
        · rw [← hc]
          show w7.cell? ⟨b, off, none⟩ = _
          simp only [World.cell?, hkeep b hbw (by omega) (fun h => by omega)]
        have hrB' : r < B := hrB
        have hmap7 : w7.heap[r]? = some (.map es clock) := (hkeep r hrw (by omega) (fun h => by omega)).trans hmap
        have hkin : kvs[i] ∈ kvs := List.getElem_mem hi
        obtain ⟨x0, hx0, hx0k, hx0r⟩ := hks kvs[i] hkin
        repeat first|(with_reducible first|apply Yk|apply Yd|apply Ym|apply Yj|apply Yh|apply Yi|apply Yn|apply Yl|apply Ye|apply Yg|apply Yr|apply Yc|apply Yf|apply Yb|apply Ya)|((with_reducible apply ws);exact rfl;exact rfl)|((with_reducible apply Yo);exact rfl;exact rfl;exact rfl)|((with_reducible apply Yq);exact rfl;exact rfl;exact rfl;exact rfl)|((with_reducible apply Yp);exact rfl;exact rfl;exact rfl)
        refine wl_lookup rfl rfl um uk hmap7 hmapd ⟨x0, hx0, hx0k⟩ rfl (fun en hen hek => ?_)
        obtain rfl : en = x0 := nodup_one (·.key) es.toList hmapd.2.1.2.2 en (Array.mem_toList_iff.2 hen) x0 (Array.mem_toList_iff.2 hx0) (by rw [hek, hx0k])
        obtain ⟨s0, hs0, hbs0⟩ := Option.bind_eq_some_iff.1 k2
        have hsrc : Src w B en.val cs := srcOf (n := s0.1) (ds := s0.2) hs0 hbs0 (arOf hs0 hx0r)
        have hsrc7 : Src w7 B en.val cs := Src.chg (Src.chg hsrc hc06 (fun j hj => by omega) (by omega)) hG7.chg (fun j hj h => by
          rcases h with h | h
          · omega
          · have := ho.ge j h; omega) (by omega)
        have hll : (xs ++ pre).length + (uvar kvs[i].1 ++ uvar cs.length ++ cs).length ≤ lim := by
          rw [k6] at hl
          simp only [List.length_append] at hl ⊢
          omega
        refine wl_callV (vs := [.int .u32 ((kvs[i].1 : Nat) : Int), en.val]) (bs := [.pointer (some ⟨bx, 0, none⟩)]) (args := [.tmp 44, .tmp 50]) rfl rfl (by kernel_rfl) rfl ((fn_put1 w7 bx B kvs[i].1 en.val di (xs ++ pre) cs e hb7 hBx ho7 (by omega) (hG7.ne hne (by have := hbx.lt; omega)) hsrc7 k3 k4 hll).mono ?_)
        rintro en' w8 ⟨rfl, d8, hb8, ho8, hG8⟩
        refine ⟨_, rfl, ?_⟩
        repeat first|(with_reducible first|apply Yk|apply Yd|apply Ym|apply Yj|apply Yh|apply Yi|apply Yn|apply Yl|apply Ye|apply Yg|apply Yr|apply Yc|apply Yf|apply Yb|apply Ya)|((with_reducible apply ws);exact rfl;exact rfl)|((with_reducible apply Yo);exact rfl;exact rfl;exact rfl)|((with_reducible apply Yq);exact rfl;exact rfl;exact rfl;exact rfl)|((with_reducible apply Yp);exact rfl;exact rfl;exact rfl)
        refine Xm rfl rfl rfl (r := ((i + 1 : Nat) : Int)) (by rw [IntKind.wrap_i64]; omega) ?_
        repeat first|(with_reducible first|apply Yk|apply Yd|apply Ym|apply Yj|apply Yh|apply Yi|apply Yn|apply Yl|apply Ye|apply Yg|apply Yr|apply Yc|apply Yf|apply Yb|apply Ya)|((with_reducible apply ws);exact rfl;exact rfl)|((with_reducible apply Yo);exact rfl;exact rfl;exact rfl)|((with_reducible apply Yq);exact rfl;exact rfl;exact rfl;exact rfl)|((with_reducible apply Yp);exact rfl;exact rfl;exact rfl)
        refine YU (i + 1, d8) ⟨rfl, rfl, rfl, rfl, rfl, trivial⟩ ⟨hi, hb8, ⟨_, k5, by simpa [List.append_assoc] using ho8⟩, hG7.trans hG8⟩ (by show kvs.length - (i + 1) < kvs.length - i; omega)
      · refine YE rfl (by simp; omega) ?_
        repeat first|(with_reducible first|apply Yk|apply Yd|apply Ym|apply Yj|apply Yh|apply Yi|apply Yn|apply Yl|apply Ye|apply Yg|apply Yr|apply Yc|apply Yf|apply Yb|apply Ya)|((with_reducible apply ws);exact rfl;exact rfl)|((with_reducible apply Yo);exact rfl;exact rfl;exact rfl)|((with_reducible apply Yq);exact rfl;exact rfl;exact rfl;exact rfl)|((with_reducible apply Yp);exact rfl;exact rfl;exact rfl)
        have hie : i = kvs.length := by omega
        rw [hie, List.take_length, hs] at hpre
        simp only [Option.some.injEq] at hpre
        subst hpre
        refine Jl rfl ⟨rfl, di, hb7, ho7, ?_⟩
        refine ⟨⟨hG7.chg.os.trans hc06.os, hG7.chg.tape.trans hc06.tape, hG7.chg.output.trans hc06.output, by omega, fun k hk hn => (hG7.chg.block k (by omega) hn).trans (hc06.block k hk (by omega))⟩, ?_⟩
        rcases hG7.fresh with h | h
        · exact .inl h
        · exact .inr (fun q hq => by have := h q hq; omega)
    · -- one more key
      have hen' : en ∈ es.toList := by
        simp only [leftOf, Array.toList_filter, List.mem_filter] at hen
        exact hen.1
      obtain ⟨k, _, hek⟩ := hmapd.2.2.1 en hen'
      have hpush := leftOf_push hen hmapd.2.1.2.1
      have hzle : zs.length < es.size := by
        have h1 := hperm5.length_eq
        have h2 := hpush.length_eq
        simp only [List.length_append, List.length_map, Array.length_toList, List.length_cons] at h1 h2
        omega
      have hes : es.size = kvs.length := by rw [hmapd.1, List.length_map]
      have hs5 := hc5.size
      have hits : w3.heap.size < w5.heap.size := (Array.getElem?_eq_some_iff.1 hit5).1
      have hne5 : dv.ownBlock ≠ some w3.heap.size := by
        intro h
        obtain ⟨cur, hcur⟩ := JX hrow5 h
        rw [hcur] at hit5; cases hit5
      have hno5 : dv.ownBlock ≠ some w1.heap.size := by
        intro h
        obtain ⟨cur, hcur⟩ := JX hrow5 h
        have h2 := hb5
        simp only [Box, hcur, Option.some.injEq, Obj.cells.injEq] at h2
        exact ne_u32s h2.2.1.symm
      have hib : w1.heap.size ≠ w3.heap.size := by omega
      have hb6 := hb5.chg hc6 (fun h : w1.heap.size = w3.heap.size => hib h)
      have hg6 : w5.grownBy w6 (some w3.heap.size) := ⟨hc6.os, hc6.tape, hc6.output, hc6.size, fun j hj hn => hc6.block j hj (fun h => hn (by rw [h]))⟩
      have hrow6 := Row.kept hrow5 hg6 (.inr hne5)
      have hmap6 : w6.heap[r]? = some (.map es clock) := (hc6.block r (by omega) (fun h : r = w3.heap.size => by omega)).trans hmap5
      refine wl_extract rfl rfl rfl ?_
      repeat first|(with_reducible first|apply Yk|apply Yd|apply Ym|apply Yj|apply Yh|apply Yi|apply Yn|apply Yl|apply Ye|apply Yg|apply Yr|apply Yc|apply Yf|apply Yb|apply Ya)|((with_reducible apply ws);exact rfl;exact rfl)|((with_reducible apply Yo);exact rfl;exact rfl;exact rfl)|((with_reducible apply Yq);exact rfl;exact rfl;exact rfl;exact rfl)|((with_reducible apply Yp);exact rfl;exact rfl;exact rfl)
      refine Yz rfl rfl ?_
      repeat first|(with_reducible first|apply Yk|apply Yd|apply Ym|apply Yj|apply Yh|apply Yi|apply Yn|apply Yl|apply Ye|apply Yg|apply Yr|apply Yc|apply Yf|apply Yb|apply Ya)|((with_reducible apply ws);exact rfl;exact rfl)|((with_reducible apply Yo);exact rfl;exact rfl;exact rfl)|((with_reducible apply Yq);exact rfl;exact rfl;exact rfl;exact rfl)|((with_reducible apply Yp);exact rfl;exact rfl;exact rfl)
      refine wl_entry rfl hit6 hmap6 hen' hmapd.2.1.2.1 rfl ?_
      rw [hek]
      refine wl_extract rfl rfl rfl ?_
      repeat first|(with_reducible first|apply Yk|apply Yd|apply Ym|apply Yj|apply Yh|apply Yi|apply Yn|apply Yl|apply Ye|apply Yg|apply Yr|apply Yc|apply Yf|apply Yb|apply Ya)|((with_reducible apply ws);exact rfl;exact rfl)|((with_reducible apply Yo);exact rfl;exact rfl;exact rfl)|((with_reducible apply Yq);exact rfl;exact rfl;exact rfl;exact rfl)|((with_reducible apply Yp);exact rfl;exact rfl;exact rfl)
      refine Yv rfl to_u32s rfl hb6 rfl ?_
      repeat first|(with_reducible first|apply Yk|apply Yd|apply Ym|apply Yj|apply Yh|apply Yi|apply Yn|apply Yl|apply Ye|apply Yg|apply Yr|apply Yc|apply Yf|apply Yb|apply Ya)|((with_reducible apply ws);exact rfl;exact rfl)|((with_reducible apply Yo);exact rfl;exact rfl;exact rfl)|((with_reducible apply Yq);exact rfl;exact rfl;exact rfl;exact rfl)|((with_reducible apply Yp);exact rfl;exact rfl;exact rfl)
      refine wl_app1 (v := .int .u32 (k : Int)) (cs := [.int .u32 (k : Int)]) (dv := dv) (xs := zs.map encU) (n := zs.length) rt_u32 rfl rfl rfl rfl rfl rfl rfl rfl hrow6 (by omega) (by simp only [many]; omega) (fun d7 w7 hrow7 hg7 => ?_)
      have hb7 := hb6.kept hg7.grown (fun h => hno5 h.symm)
      have hit7 : w7.heap[w3.heap.size]? = some (.mapIter (some r) clock (seen.push en.born) clock) := (hg7.grown.block _ (by omega) (fun h => hne5 h.symm)).trans hit6
      obtain ⟨a7, c7, hd7⟩ := Row.shape hrow7
      refine YJ rfl rfl to_u32s (by rw [hd7]; rfl) hb7 rfl (fun w8 hb8 hg8 hs8 => ?_)
      have hno7 : d7.ownBlock ≠ some w1.heap.size := by
        intro h
        obtain ⟨cur, hcur⟩ := JX hrow7 h
        have h2 := hb7
        simp only [Box, hcur, Option.some.injEq, Obj.cells.injEq] at h2
        exact ne_u32s h2.2.1.symm
      have hrow8 := Row.kept hrow7 hg8 (.inr hno7)
      have hit8 : w8.heap[w3.heap.size]? = some (.mapIter (some r) clock (seen.push en.born) clock) := (hg8.block _ (by have := hg7.grown.size; omega) (fun h => hib (by simpa using h.symm))).trans hit7
      have hge := Row.ge hrow5
      have hc8 : Chg (fun j => w.heap.size ≤ j) w w8 := ((hc5.trans (hc6.wide (fun j hj => by have : j = w3.heap.size := hj; omega))).trans
        (⟨hg7.grown.os, hg7.grown.tape, hg7.grown.output, hg7.grown.size, fun j hj hn => hg7.grown.block j hj (fun h => hn (hge j h.symm))⟩ : Chg (fun j => w.heap.size ≤ j) w6 w7)).trans ((Chg.grown hg8).wide (fun j hj => by have : j = w1.heap.size := hj; omega))
      repeat first|(with_reducible first|apply Yk|apply Yd|apply Ym|apply Yj|apply Yh|apply Yi|apply Yn|apply Yl|apply Ye|apply Yg|apply Yr|apply Yc|apply Yf|apply Yb|apply Ya)|((with_reducible apply ws);exact rfl;exact rfl)|((with_reducible apply Yo);exact rfl;exact rfl;exact rfl)|((with_reducible apply Yq);exact rfl;exact rfl;exact rfl;exact rfl)|((with_reducible apply Yp);exact rfl;exact rfl;exact rfl)
      refine YU (zs ++ [(k : Int)], d7, seen.push en.born, clock) ⟨rfl, rfl, rfl, rfl, trivial⟩ ⟨hb8, ?_, hit8, Nat.le_refl _, ?_, hc8⟩ ?_
      · simpa using hrow8
      · refine List.Perm.trans ?_ hperm5
        simp only [List.map_append, List.map_cons, List.map_nil, List.append_assoc, List.cons_append, List.nil_append]
        refine List.Perm.append_left _ ?_
        have := (hpush.map (·.key)).symm
        simpa [hek, encU] using this
      · have h2 := hpush.length_eq
        simp only [Array.length_toList, List.length_cons] at h2
        show (leftOf es (seen.push en.born)).size < (leftOf es seen).size
        omega
theorem teachOk (tlen : Nat) (ver : Int) : Yb9 Tryz.prog 5 (kt tlen 102 ver) := by
  intro _ kvs b off v ys d w B xs hs hb hc hr ho hB hl
  refine enter (vs := [.pointer (some ⟨b, off, none⟩), d]) Tryz.func102 rfl Tryz.ntmps102 rfl ?_
  obtain ⟨da, dc, hd⟩ := ho.shape
  repeat first|(with_reducible first|apply Yk|apply Yd|apply Ym|apply Yj|apply Yh|apply Yi|apply Yn|apply Yl|apply Ye|apply Yg|apply Yr|apply Yc|apply Yf|apply Yb|apply Ya)|((with_reducible apply ws);exact rfl;exact rfl)|((with_reducible apply Yo);exact rfl;exact rfl;exact rfl)|((with_reducible apply Yq);exact rfl;exact rfl;exact rfl;exact rfl)|((with_reducible apply Yp);exact rfl;exact rfl;exact rfl)
  refine Xt (cs := [d]) rfl (by rw [hd]; rfl) rfl (fun w1 hb1 hg1 hs1 => ?_)
  have hw1 : Below w.heap.size w w1 := Yx hg1 (Nat.le_refl _) (by simp)
  have hc1 : w1.cell? ⟨b, off, none⟩ = some v := by rw [← hc]; simp only [World.cell?, hw1.block b (by omega)]
  have hr1 : Rep (Lo B) w1 (.mp kvs) [v] := Rep.below hr (hw1.mono hB) (Nat.le_refl _)
  have ho1 := Own.under ho hw1
  repeat first|(with_reducible first|apply Yk|apply Yd|apply Ym|apply Yj|apply Yh|apply Yi|apply Yn|apply Yl|apply Ye|apply Yg|apply Yr|apply Yc|apply Yf|apply Yb|apply Ya)|((with_reducible apply ws);exact rfl;exact rfl)|((with_reducible apply Yo);exact rfl;exact rfl;exact rfl)|((with_reducible apply Yq);exact rfl;exact rfl;exact rfl;exact rfl)|((with_reducible apply Yp);exact rfl;exact rfl;exact rfl)
  refine Jo (caps := [.tmp 3]) rfl rfl ?_
  refine Yu rfl (by kernel_rfl) rfl ((fn_each w1 w.heap.size B b off kvs v d xs ys _ hs hb hc1 hr1 hb1 hB ho1 (by omega) (fun e => by have := ho.lt _ e; omega) hl).mono ?_)
  rintro en w2 ⟨rfl, d2, hb2, ho2, hG2⟩
  refine ⟨_, rfl, ?_⟩
  repeat first|(with_reducible first|apply Yk|apply Yd|apply Ym|apply Yj|apply Yh|apply Yi|apply Yn|apply Yl|apply Ye|apply Yg|apply Yr|apply Yc|apply Yf|apply Yb|apply Ya)|((with_reducible apply ws);exact rfl;exact rfl)|((with_reducible apply Yo);exact rfl;exact rfl;exact rfl)|((with_reducible apply Yq);exact rfl;exact rfl;exact rfl;exact rfl)|((with_reducible apply Yp);exact rfl;exact rfl;exact rfl)
  refine Yv rfl to_bytes rfl hb2 rfl ?_
  repeat first|(with_reducible first|apply Yk|apply Yd|apply Ym|apply Yj|apply Yh|apply Yi|apply Yn|apply Yl|apply Ye|apply Yg|apply Yr|apply Yc|apply Yf|apply Yb|apply Ya)|((with_reducible apply ws);exact rfl;exact rfl)|((with_reducible apply Yo);exact rfl;exact rfl;exact rfl)|((with_reducible apply Yq);exact rfl;exact rfl;exact rfl;exact rfl)|((with_reducible apply Yp);exact rfl;exact rfl;exact rfl)
  refine Yt rfl rfl ⟨d2, rfl, ho2, ⟨⟨hG2.chg.os.trans hw1.os, hG2.chg.tape.trans hw1.tape, hG2.chg.output.trans hw1.output, by have := hG2.chg.size; omega, fun k hk hn => ?_⟩, ?_⟩⟩
  · rw [hG2.chg.block k (by omega) (fun h => by
      rcases h with h | h
      · omega
      · exact hn h.symm)]
    exact hw1.block k hk
  · rcases hG2.fresh with h | h
    · exact .inl h
    · exact .inr (fun q hq => by have := h q hq; omega)
end Go.Proofs.YtmihblfjhoblmaaGreatDoor.Rdk

/- A whole function that appends. Over any program. -/
namespace Go.Proofs.YtmihblfjhoblmaaGreatDoor
open Go Go.RowKit

def tmpOf (r : Array ResultVar) : Option Nat := match r with
  | ⟨[.tmp u]⟩ => some u
  | _ => none
theorem tmpOf_out {r : Array ResultVar} {t : Nat} (h : tmpOf r = some t) : r = #[.tmp t] := by
  unfold tmpOf at h
  split at h
  · cases h; rfl
  · cases h
def appRun (P : Program) (K : Kt) (u8 f : Nat) (sh : List Ck) : Option (Option Sy × List Out × Bool) := match P.funcs[f]? with
  | some fn => (match fn.body, tmpOf fn.results with
    | some c, some r => bif Uq P f && Nat.ble 2 fn.ntmps then (match runS P K fn.ntmps u8 4000 [sh] [] ([(0, .at_ 0 0)], [1]) c with
      | some x => some (evS x.1 (.tmp r), x.2.1, x.2.2)
      | none => none) else none
    | _, _ => none)
  | none => none
theorem app_ok {P : Program} {K : Kt} {u8 f : Nat} {sh : List Ck} {os : List Out} (hT : Yj2 P K) (hK : FnsOk P u8 K) (hE : Yb9 P u8 K) (h : appRun P K u8 f sh = some (some .dst, os, true)) {B b : Nat} {w : World} {cs : List Value} {ds : List D} {d : Value} {xs ys : List UInt8}
    (hit : ItOk B w ⟨b, 0, 0, cs, ds⟩) (hsh : shDs ds = sh) (hver : cs[0]? = some K.ver) (ho : Own w B u8 d xs) (hB : B ≤ w.heap.size) (hs : Ui [ds] os = some ys) (hl : xs.length + ys.length ≤ lim) :
    Uq P f = true ∧ Calls P f #[.pointer (some ⟨b, 0, none⟩), d] w fun e w' => ∃ d', e = .returned d' ∧ Own w' B u8 d' (xs ++ ys) ∧ Grew w w' d d' := by
  unfold appRun at h
  split at h
  · rename_i fn hfn
    split at h
    · rename_i c r hbody hres
      cases hc : Uq P f && Nat.ble 2 fn.ntmps with
      | false => rw [hc] at h; cases h
      | true =>
        rw [hc] at h
        simp only [cond_true] at h
        rw [Bool.and_eq_true] at hc
        have hn : 2 ≤ fn.ntmps := Nat.le_of_ble_eq_true hc.2
        split at h
        · rename_i x hx
          simp only [Option.some.injEq, Prod.mk.injEq] at h
          obtain ⟨h1, h2, h3⟩ := h
          refine ⟨hc.1, calls_of_wp hfn hbody ?_⟩
          have hrun := runS_ok (B := B) hT hK hE _ _ _ _ _ x.1 x.2.1 x.2.2 (by rw [hx])
          refine hrun [⟨b, 0, 0, cs, ds⟩] _ w d xs ys _ (by simp) ⟨?_, ?_, ?_, ?_⟩ (fun q hq => by cases hq) ho hB (by rw [h2]; simpa using hs) hl ?_
          · refine ⟨by simp; omega, rfl, fun t s e => ?_, fun t e => ?_⟩
            · simp only [lkS] at e
              cases hb : Nat.beq 0 t with
              | false => rw [hb] at e; cases e
              | true =>
                rw [hb] at e
                have := Ys hb; subst this
                simp only [cond_true, Option.some.injEq] at e
                subst e
                simp only [den, gt, Array.getD_eq_getD_getElem?]
                rw [Array.getElem?_append_left (by simp)]; rfl
            · have : 1 = t := by simpa [memN] using e
              subst this
              simp only [gt, Array.getD_eq_getD_getElem?]
              rw [Array.getElem?_append_left (by simp)]; rfl
          · intro it hi; simp at hi; subst hi; exact hit
          · refine ⟨rfl, fun k x hx => ?_⟩
            cases k with
            | zero => simp at hx; subst hx; simp [hsh]
            | succ k => simp at hx
          · intro it hi; simp at hi; subst hi; exact hver
          · intro a' w' d' H' ho' hg'
            rw [h3]
            have hd := (H'.kn.eval h1).1 rfl
            refine ⟨H'.kn.defers, d', ?_, d', rfl, ho', hg'⟩
            rw [results_tmp (tmpOf_out hres)]
            rw [Xd] at hd
            simp only [gt] at hd
            rw [hd]
        · cases h
    · cases h
  · cases h
end Go.Proofs.YtmihblfjhoblmaaGreatDoor

/- What is read of what is written: a whole struct. No program in sight. -/
namespace Go.Proofs.YtmihblfjhoblmaaGreatDoor
open Go Go.RowKit

theorem endR_out {flex : Bool} {off : Nat} {a r : List Ra} (h : endR flex off a = some r) : (flex = true ∧ a = .tags off :: r) ∨ (flex = false ∧ a = r) := by
  unfold endR at h
  cases flex with
  | false => simp only [Bool.false_eq_true, if_false, Option.some.injEq] at h; exact .inr ⟨rfl, h⟩
  | true =>
    simp only [if_true] at h
    split at h
    · rename_i o r'
      cases hb : Nat.beq o off with
      | false => rw [hb] at h; cases h
      | true =>
        rw [hb] at h
        simp only [cond_true, Option.some.injEq] at h
        subst h
        rw [Ys hb]
        exact .inl ⟨rfl, rfl⟩
    · cases h
theorem isEnd_out {flex : Bool} {off : Nat} {a : List Ra} (h : isEnd flex off a = true) : endR flex off a = some [] := by
  unfold isEnd at h
  split at h
  · assumption
  · cases h
theorem isPrim_out {p : Rp} {a : List Ra} (h : isPrim p a = true) : a = [.prim p 0] := by
  unfold isPrim at h
  split at h
  · rw [rpEq_out h]
  · cases h
/-- What a part of the acts VQ of a part of the octets. -/
def Yc2 (_ver : Int) (_tg _flex : Bool) (sh : List Ck) (H : List D → Prop) (a r : List Ra) (off : Nat) (ys : List UInt8) : Prop :=
  ∀ (pre mid post : List D) (s : List UInt8), shDs mid = sh → Yd5 pre → Yd5 mid → D.widths pre = off →
    ∃ new new', rdAs a (pre ++ mid ++ post) (ys ++ s) = rdAs r (pre ++ new ++ post) s ∧ shDs new = sh ∧ Yd5 new ∧ H new' ∧ shDs new' = sh ∧ pos new' ∧ Imp new new'
theorem reads_tags {ver : Int} {tg flex : Bool} (htg : flex = true → tg = true) {a r : List Ra} {off : Nat} {t : Tree} {fs : List Fld} (h : endR flex off a = some r) (hu : FitU fs t) :
    Yc2 ver tg flex (if tg then [.mp] else []) (Ya0 tg flex t) a r off (if flex then uvar t.u.length ++ t.u.flatMap (fun kv => Jj kv.1 kv.2) else []) := by
  intro pre mid post s hsh hpre hmid hw
  rcases endR_out h with ⟨rfl, rfl⟩ | ⟨rfl, rfl⟩
  · have := htg rfl
    subst this
    simp only [if_true] at hsh ⊢
    have hr : Ve t.u := by rw [← hu.1]; exact Jg _ _
    refine ⟨[Ut t.u], [Ut t.u], ?_, by simp [shDs, Ut, shD], fun d hd => by simp at hd; subst hd; rfl, by simp [Ya0], by simp [shDs, Ut, shD], fun d hd => by simp at hd; subst hd; simp [Ut, D.width], Imp.refl _⟩
    simp only [rdAs, rdA]
    rw [tagsP_ok t.u s hr hu.2.1 hu.2.2]
    simp only [Option.bind_some]
    subst hw
    rw [Yk0 (Vu hpre) (Vu hmid) (by rw [hsh]; simp [shDs, Ut, shD])]
    rfl
  · refine ⟨mid, mid, by simp, hsh, hmid, ?_, hsh, Vu hmid, Imp.refl _⟩
    unfold Ya0
    cases tg with
    | false =>
      simp only [Bool.false_eq_true, if_false] at hsh ⊢
      have := unit_len hmid
      rw [hsh] at this
      exact List.length_eq_zero_iff.1 this.symm
    | true =>
      simp only [if_true, Bool.false_eq_true, if_false] at hsh ⊢
      have := unit_len hmid
      rw [hsh] at this
      obtain ⟨d, rfl⟩ := List.length_eq_one_iff.1 this.symm
      exact ⟨d, rfl, by simpa [shDs] using hsh⟩
theorem reads_app {ver : Int} {tg flex : Bool} {sh1 sh2 : List Ck} {H1 H2 : List D → Prop} {a b r : List Ra} {off : Nat} {y1 y2 : List UInt8} (h1 : Yc2 ver tg flex sh1 H1 a b off y1) (h2 : Yc2 ver tg flex sh2 H2 b r (off + sh1.length) y2) :
    Yc2 ver tg flex (sh1 ++ sh2) (fun ds => ∃ x y, ds = x ++ y ∧ H1 x ∧ H2 y ∧ shDs x = sh1 ∧ pos x) a r off (y1 ++ y2) := by
  intro pre mid post s hsh hpre hmid hw
  obtain ⟨m1, m2, rfl, k1, k2, u1, u2⟩ := unit_split hmid hsh
  obtain ⟨n1, n1', e1, e2, e3, e4, e5, e6, e7⟩ := h1 pre m1 (m2 ++ post) (y2 ++ s) k1 hpre u1 hw
  obtain ⟨n2, n2', g1, g2, g3, g4, g5, g6, g7⟩ := h2 (pre ++ n1) m2 post s k2 (unit_app hpre e3) u2 (by rw [widths_append, hw, ← shs_width, e2])
  refine ⟨n1 ++ n2, n1' ++ n2', ?_, by rw [shDs_append, e2, g2], unit_app e3 g3, ⟨n1', n2', rfl, e4, g4, e5, e6⟩, by rw [shDs_append, e5, g5], Jd e6 g6, Imp.app e7 g7⟩
  have a1 : pre ++ (m1 ++ m2) ++ post = pre ++ m1 ++ (m2 ++ post) := by simp [List.append_assoc]
  have a2 : pre ++ n1 ++ (m2 ++ post) = pre ++ n1 ++ m2 ++ post := by simp [List.append_assoc]
  have a3 : pre ++ (n1 ++ n2) ++ post = pre ++ n1 ++ n2 ++ post := by simp [List.append_assoc]
  rw [a1, List.append_assoc y1, e1, a2, g1, a3]
theorem Yc2.weak {ver : Int} {tg flex : Bool} {sh : List Ck} {H H' : List D → Prop} {a r : List Ra} {off : Nat} {ys : List UInt8} (h : Yc2 ver tg flex sh H a r off ys) (k : ∀ ds, H ds → H' ds) : Yc2 ver tg flex sh H' a r off ys := by
  intro pre mid post s hsh hpre hmid hw
  obtain ⟨n1, n1', e1, e2, e3, e4, e5⟩ := h pre mid post s hsh hpre hmid hw
  exact ⟨n1, n1', e1, e2, e3, k _ e4, e5⟩
theorem Yb2 {ver : Int} {tg flex : Bool} (htg : flex = true → tg = true) {a b r : List Ra} {off : Nat} {t : Tree} {fs : List Fld} (h1 : Yc2 ver tg flex (shFs tg fs) (Vv ver tg flex fs 0 t) a b off (wFs ver flex fs 0 t)) (h : endR flex (off + (shFs tg fs).length) b = some r) (hf : FitT ver fs t) :
    Yc2 ver tg flex (shP tg fs) (UE ver tg flex fs t) a r off (YM ver flex fs t) := by
  have e : YM ver flex fs t = wFs ver flex fs 0 t ++ (if flex then uvar t.u.length ++ t.u.flatMap (fun kv => Jj kv.1 kv.2) else []) := by
    unfold YM
    rw [Yi9 hf.1 hf.2]
    cases flex <;> simp [asm]
  rw [e]
  exact (reads_app h1 (reads_tags htg h hf.2)).weak (fun ds ⟨x, y, e1, e2, e3, _⟩ => ⟨x, y, e1, e2, e3⟩)
theorem JM (l : List Value) : Yd5 (Xi l) := by
  intro d hd
  simp only [Xi, List.mem_map] at hd
  obtain ⟨u, _, rfl⟩ := hd
  rfl
mutual
theorem mF_ok (ver : Int) (tg flex : Bool) (htg : flex = true → tg = true) : ∀ (f : Fld) (a r : List Ra) (off : Nat), mF ver tg flex off f a = some r → ∀ t, FitF ver f t → Yc2 ver tg flex (shF tg f) (HoldF ver tg flex f t) a r off (Xk ver flex f t)
  | .mk kind fr upto nul tag df of sub, a, r, off, h, t, hfit => by
    have hM : XQ = 32767 := rfl
    simp only [mF] at h
    simp only [FitF] at hfit
    obtain ⟨hnul, h8, hfit⟩ := hfit
    have hH : ∀ ds, HoldF ver tg flex (.mk kind fr upto nul tag df of sub) t ds ↔ _ := fun ds => HoldF_mk ver tg flex kind fr upto nul tag df of sub t ds
    rw [VL ver flex kind fr upto nul tag df of sub t _ rfl]
    by_cases h11 : kind = 11
    · simp only [h11, if_true] at h hfit hH ⊢
      obtain ⟨hlen, hst, hpr⟩ := hfit
      have hth := Ye9 hlen
      split at h
      · rename_i c nb o st dfl body rr
        cases hc : (c == flex) && (nb == decide (0 ≤ nul ∧ nul ≤ ver)) && Nat.beq o off && (st == decide (of = 10)) && decide (shDs (Xi dfl) = shE tg of sub) &&
          (if of = 10 then (flex || ne1 ver sub) && endsO flex (shFs tg sub).length (mFs ver tg flex 0 sub body) else isPrim (rpV of (-1) ver flex) body) with
        | false => rw [hc] at h; cases h
        | true =>
          rw [hc] at h
          simp only [cond_true, Option.some.injEq] at h
          subst h
          simp only [Bool.and_eq_true, beq_iff_eq, decide_eq_true_eq] at hc
          obtain ⟨⟨⟨⟨⟨g1, g2⟩, g3⟩, g4⟩, g5⟩, g6⟩ := hc
          subst g1
          have := Ys g3; subst this
          -- the elements
          have hel : ∀ s, ∃ dss els, VJ body (Xi dfl) t.l.length (t.l.flatMap (Xr of c false (YM ver c sub)) ++ s) = some (dss, s) ∧ dss.length = t.l.length ∧ els.length = t.l.length ∧ Imp (dss.map (elD st)) els ∧
              (if of = 10 then ∀ i, i < t.l.length → ∃ ps, els[i]? = some (.agg ps) ∧ UE ver tg c sub (att t i) ps else els = t.l.map (Xv of (-1))) := by
            intro s
            by_cases h10 : of = 10
            · simp only [h10, if_true, decide_true, Bool.and_eq_true] at g4 g5 g6 ⊢
              subst g4
              obtain ⟨g6, g7⟩ := g6
              unfold endsO at g7
              split at g7
              · rename_i r' hr'
                have hend := isEnd_out g7
                rw [show Xr 10 c false (YM ver c sub) = YM ver c sub from funext fun x => by simp [Xr]]
                obtain ⟨dss, e1, e2, e3⟩ := rdRow_ok body (Xi dfl) (YM ver c sub) (fun x nd => ∃ nd', UE ver tg c sub x nd' ∧ Imp nd nd') t.l (fun x hx s => by
                  obtain ⟨hf, hu⟩ := hst h10 x hx
                  have hR := Yb2 (off := 0) htg (mFs_ok ver tg c htg sub body r' 0 hr' 0 x hf) (by rw [Nat.zero_add]; exact hend) ⟨hf, hu⟩
                  obtain ⟨new, new', k1, k2, k3, k4, k5, k6, k7⟩ := hR [] (Xi dfl) [] s (by rw [g5]; simp [shE]) (fun d hd => by cases hd) (JM _) rfl
                  simp only [List.nil_append, List.append_nil, rdAs] at k1
                  exact ⟨new, k1, new', k4, k7⟩) s
                have hch : ∀ i (hi : i < t.l.length), ∃ ps, UE ver tg c sub t.l[i] ps ∧ ∃ nd, dss[i]? = some nd ∧ Imp nd ps := by
                  intro i hi
                  obtain ⟨nd, k1, nd', k2, k3⟩ := e3 i hi
                  exact ⟨nd', k2, nd, k1, k3⟩
                let g : Nat → List D := fun i => if hi : i < t.l.length then Classical.choose (hch i hi) else []
                have hg : ∀ i (hi : i < t.l.length), UE ver tg c sub t.l[i] (g i) ∧ ∃ nd, dss[i]? = some nd ∧ Imp nd (g i) := by
                  intro i hi
                  simp only [g, dif_pos hi]
                  exact Classical.choose_spec (hch i hi)
                refine ⟨dss, (List.range t.l.length).map (fun i => .agg (g i)), e1, e2, by simp, ?_, fun i hi => ⟨g i, by simp [hi], by rw [att_get hi]; exact (hg i hi).1⟩⟩
                refine imp_list (by simp [e2]) (fun i x y hx hy => ?_)
                simp only [List.getElem?_map, Option.map_eq_some_iff] at hx hy
                obtain ⟨nd, hnd, rfl⟩ := hx
                obtain ⟨j, hj, rfl⟩ := hy
                have hi : i < t.l.length := by rw [← e2]; exact (List.getElem?_eq_some_iff.1 hnd).1
                have hji : j = i := by
                  rw [List.getElem?_range hi] at hj
                  simpa using hj.symm
                subst hji
                obtain ⟨_, nd', hnd', him⟩ := hg j hi
                rw [hnd] at hnd'
                simp only [Option.some.injEq] at hnd'
                subst hnd'
                simp only [elD, if_true]
                refine Imp.one (fun ok w cs hr => ?_)
                simp only [Rep] at hr ⊢
                exact him ok w cs hr
              · cases g7
            · simp only [h10, if_false, decide_false] at g4 g5 g6 ⊢
              subst g4
              obtain ⟨⟨h11', h7⟩, hv⟩ := hpr h10
              have hb := isPrim_out g6
              subst hb
              obtain ⟨dss, e1, e2, e3⟩ := rdRow_ok [.prim (rpV of (-1) ver c) 0] (Xi dfl) (Xr of c false (YM ver c sub)) (fun x nd => nd = [Xv of (-1) x]) t.l (fun x hx s => by
                obtain ⟨nd, d, k1, k2, k3, k4, k5, k6⟩ := rdP_ok of (-1) ver c x (YM ver c sub) s (hv x hx) (by omega) (by omega) h10
                have hd : d = Xv of (-1) x ∨ of = 9 := by
                  unfold Yi7 at k4
                  split at k4
                  · rename_i hh; exact .inr hh.1
                  · exact .inl k4
                have hnd := k6 h7
                simp only [rdAs_one, rdA]
                have e : (x.nul && decide ((0 : Int) ≤ -1) && decide ((-1 : Int) ≤ ver)) = false := by simp
                rw [e] at k1
                rw [k1]
                simp only [Option.bind_some]
                have hput := Yk0 (a := []) (m := Xi dfl) (b := []) (new := nd) (fun d hd => by cases hd) (Vu (JM _)) (by rw [g5, k2]; simp [shE, h10])
                simp only [D.widths, List.nil_append, List.append_nil] at hput
                rw [hput]
                refine ⟨nd, rfl, ?_⟩
                rcases hd with hd | hd
                · rw [hnd, hd]
                · subst hd
                  have : rdP (rpV 9 (-1) ver c) (Xr 9 c false (YM ver c sub) x ++ s) = some ([.sq (x.s.map byteD)], s) := by
                    have hs := hv x hx (.inr rfl)
                    have hwh := UC hs
                    have er : rpV 9 (-1) ver c = (if c then .cbytes else .bytes) := by simp [rpV]
                    rw [er]
                    cases c
                    · simp only [Xr, YF]
                      simp [rdP, hwh]
                      rw [Vs .i32 4 32 rfl rfl]
                      have hw : IntKind.i32.wrap (x.s.length : Int) = x.s.length := by rw [IntKind.wrap_i32]; omega
                      simp only [Option.bind_some, hw]
                      rw [if_neg (by omega), Vd _ _ _ rfl]; rfl
                    · simp only [Xr, YF]
                      simp [rdP, hwh]
                      rw [Xy _ _ (by omega)]
                      simp only [Option.bind_some]
                      rw [if_neg (by omega), Vd _ _ _ (by omega)]; rfl
                  rw [this] at k1
                  simp only [Option.some.injEq, Prod.mk.injEq, and_true] at k1
                  rw [← k1]
                  simp [Xv]) s
              refine ⟨dss, t.l.map (Xv of (-1)), e1, e2, by simp, ?_, rfl⟩
              refine imp_list (by simp [e2]) (fun i x y hx hy => ?_)
              simp only [List.getElem?_map, Option.map_eq_some_iff] at hx hy
              obtain ⟨nd, hnd, rfl⟩ := hx
              obtain ⟨z, hz, rfl⟩ := hy
              have hi : i < t.l.length := (List.getElem?_eq_some_iff.1 hz).1
              obtain ⟨nd', h1, h2⟩ := e3 i hi
              rw [hnd] at h1
              simp only [Option.some.injEq] at h1
              subst h1
              rw [List.getElem?_eq_getElem hi] at hz
              simp only [Option.some.injEq] at hz
              subst hz
              subst h2
              simp only [elD, Bool.false_eq_true, if_false]
              exact Imp.refl _
          -- the count
          have hpos : ∀ x ∈ t.l, 1 ≤ (Xr of c false (YM ver c sub) x).length := by
            intro x hx
            by_cases h10 : of = 10
            · simp only [h10, if_true, Bool.and_eq_true] at g6
              have := wPart_pos ver c sub x g6.1
              simpa [h10, Xr] using this
            · exact wVal_pos _ _ _ _ _ h10
          have hfl := Yf9 (Xr of c false (YM ver c sub)) t.l hpos
          intro pre mid post s hsh hpre hmid hw
          have shx : shF tg (.mk 11 fr upto nul tag df of sub) = [.sl] := by simp [shF]
          rw [shx] at hsh ⊢
          obtain ⟨dss, els, e1, e2, e3, e4, e5⟩ := hel s
          obtain ⟨nulb, hnb⟩ : ∃ nulb, (t.nul && decide (0 ≤ nul) && decide (nul ≤ ver)) = nulb := ⟨_, rfl⟩
          rw [hnb]
          have hput : ∀ d : D, shD d = [.sl] → putD (pre ++ mid ++ post) o [d] = some (pre ++ [d] ++ post) := by
            intro d hd
            subst hw
            exact Yk0 (Vu hpre) (Vu hmid) (by rw [hsh]; simp [shDs, hd])
          have fin : ∀ d d', rowP c nb st dfl body ((YF c nulb (if nulb then [] else Xo t.l).length 4 ++ (if nulb then [] else Xo t.l).flatMap (Xr of c false (YM ver c sub))) ++ s) = some (d, s) → shD d = [.sl] → shD d' = [.sl] → d.width = 1 → d'.width = 1 → HoldF ver tg c (.mk 11 fr upto nul tag df of sub) t [d'] → Imp [d] [d'] →
              ∃ new new', rdAs (.row c nb o st dfl body :: rr) (pre ++ mid ++ post) ((YF c nulb (if nulb then [] else Xo t.l).length 4 ++ (if nulb then [] else Xo t.l).flatMap (Xr of c false (YM ver c sub))) ++ s) = rdAs rr (pre ++ new ++ post) s ∧ shDs new = [.sl] ∧ Yd5 new ∧ HoldF ver tg c (.mk 11 fr upto nul tag df of sub) t new' ∧ shDs new' = [.sl] ∧ pos new' ∧ Imp new new' := by
            intro d d' k1 k2 k3 k4 k5 k6 k7
            refine ⟨[d], [d'], ?_, by simp [shDs, k2], fun x hx => by simp at hx; subst hx; exact k4, k6, by simp [shDs, k3], fun x hx => by simp at hx; subst hx; rw [k5]; omega, k7⟩
            simp only [rdAs]
            rw [rdA_row, k1]
            simp only [Option.bind_some]
            rw [hput d k2]
            rfl
          cases nulb with
          | true =>
            simp only [Bool.and_eq_true, decide_eq_true_eq] at hnb
            have hnbt : nb = true := by rw [g2]; simp [hnb.1.2, hnb.2]
            refine fin (.sl true []) (.sl true []) ?_ rfl rfl rfl rfl ((hH _).2 ⟨_, rfl, .inl ⟨hnb.1.2, hnb.1.1, rfl⟩⟩) (Imp.refl _)
            simp only [if_true, List.length_nil, List.flatMap_nil, List.append_nil]
            rw [rowP, lenP_ok c true 0 s (by omega) (.inl rfl)]
            simp [VJ, hnbt]
          | false =>
            have hnn : ¬ (0 ≤ nul ∧ t.nul = true) := by
              rintro ⟨a1, a2⟩
              have a3 := hnul a1 a2
              rw [a2] at hnb
              simp [a1, a3] at hnb
            have hrow : rowP c nb st dfl body ((YF c false t.l.length 4 ++ t.l.flatMap (Xr of c false (YM ver c sub))) ++ s) = some (if nb then .sl false (dss.map (elD st)) else .sq (dss.map (elD st)), s) := by
              rw [rowP, List.append_assoc, lenP_ok c false t.l.length _ hlen (.inr (by rw [List.length_append]; omega))]
              simp only [Bool.false_eq_true, if_false, Option.bind_some, Int.toNat_natCast]
              rw [e1]
              simp only [Option.map_some]
              rw [if_neg (by omega : ¬ ((t.l.length : Int) < 0))]
            have hlm : (dss.map (elD st)).length = els.length := by simp [e2, e3]
            simp only [Bool.false_eq_true, if_false, hth] at fin ⊢
            cases hnb2 : nb with
            | true =>
              rw [hnb2] at hrow
              rw [hnb2] at fin
              exact fin _ (.sl false els) hrow rfl rfl rfl rfl ((hH _).2 ⟨_, rfl, .inr ⟨hnn, rfl, rfl, false, els, rfl, fun _ _ => rfl, e3, e5⟩⟩) (imp_sl hlm e4)
            | false =>
              rw [hnb2] at hrow g2
              rw [hnb2] at fin
              refine fin _ (.sq els) hrow rfl rfl rfl rfl ((hH _).2 ⟨_, rfl, .inr ⟨hnn, rfl, rfl, false, els, rfl, fun a1 a2 => ?_, e3, e5⟩⟩) (imp_sq hlm e4)
              simp [a1, a2] at g2
      · cases h
    · simp only [h11, if_false] at h hfit hH ⊢
      by_cases h10 : kind = 10
      · simp only [h10, if_true] at h hfit hH ⊢
        by_cases hn : 0 ≤ nul
        · simp only [hn, if_true] at h
          cases h
        · simp only [hn, if_false, and_false] at h hH ⊢
          split at h
          · rename_i r1 hr1
            have hR := Yb2 htg (mFs_ok ver tg flex htg sub a r1 off hr1 0 t hfit.1) h hfit
            have es : shF tg (.mk 10 fr upto nul tag df of sub) = shP tg sub := by simp [shF, hn, shP]
            rw [es]
            simp only [Xr]
            exact hR.weak (fun ds hd => (hH ds).2 hd)
          · cases h
      · simp only [h10, if_false, false_and] at h hfit hH ⊢
        split at h
        · rename_i p o rr
          cases hb : rpEq p (rpV kind nul ver flex) && Nat.beq o off with
          | false => rw [hb] at h; cases h
          | true =>
            rw [hb] at h
            simp only [cond_true, Option.some.injEq] at h
            subst h
            rw [Bool.and_eq_true] at hb
            have := rpEq_out hb.1; subst this
            have := Ys hb.2; subst this
            have es : shF tg (.mk kind fr upto nul tag df of sub) = shV kind nul := by simp [shF, h11, h10]
            rw [es]
            intro pre mid post s hsh hpre hmid hw
            obtain ⟨nd, d, k1, k2, k3, k4, k5, _⟩ := rdP_ok kind nul ver flex t (YM ver flex sub) s hfit hnul h8 h10
            have hsd : shDs [d] = shV kind nul := by
              unfold Yi7 at k4
              split at k4
              · rename_i hh
                rw [hh.1]
                simp [shDs, k4.2.1, shV]
              · rw [k4]; simp only [shDs, List.append_nil, Yf7]
            refine ⟨nd, [d], ?_, k2, k3, (hH _).2 ⟨d, rfl, k4⟩, hsd, fun x hx => ?_, k5⟩
            · simp only [rdAs, rdA]
              rw [k1]
              simp only [Option.bind_some]
              subst hw
              rw [Yk0 (Vu hpre) (Vu hmid) (by rw [hsh, k2])]
              rfl
            · simp at hx; subst hx
              have h1 : (shDs [x]).length = (shV kind nul).length := by rw [hsd]
              rw [shs_width] at h1
              simp only [D.widths, Nat.add_zero] at h1
              rw [h1]
              unfold shV
              repeat' split
              all_goals simp
        · cases h
theorem mFs_ok (ver : Int) (tg flex : Bool) (htg : flex = true → tg = true) : ∀ (fs : List Fld) (a r : List Ra) (off : Nat), mFs ver tg flex off fs a = some r → ∀ i t, Jf ver fs i t → Yc2 ver tg flex (shFs tg fs) (Vv ver tg flex fs i t) a r off (wFs ver flex fs i t)
  | [], a, r, off, h, i, t, hfit => by
    simp only [mFs, Option.some.injEq] at h
    subst h
    intro pre mid post s hsh hpre hmid hw
    have : mid = [] := by
      have := unit_len hmid
      rw [hsh] at this
      exact List.length_eq_zero_iff.1 this.symm
    subst this
    exact ⟨[], [], by simp [wFs], rfl, hmid, by simp [Vv], rfl, (fun d hd => by cases hd), Imp.refl _⟩
  | f :: fs, a, r, off, h, i, t, hfit => by
    simp only [mFs] at h
    simp only [Jf] at hfit
    obtain ⟨htag, hff, hrest⟩ := hfit
    split at h
    · rename_i b hb
      have h2 := mFs_ok ver tg flex htg fs b r (off + (shF tg f).length) h (i + 1) t hrest
      have key : Yc2 ver tg flex (shF tg f) (fun ds => f.has ver = true → HoldF ver tg flex f (att t i) ds) a b off (if f.tag < 0 ∧ f.has ver = true then Xk ver flex f (att t i) else []) := by
        by_cases hx : f.has ver = true
        · rw [if_pos hx] at hb
          rw [if_pos ⟨htag, hx⟩]
          exact (mF_ok ver tg flex htg f a b off hb (att t i) (hff hx)).weak (fun ds hd _ => hd)
        · rw [if_neg hx] at hb
          rw [if_neg (fun e => hx e.2)]
          simp only [Option.some.injEq] at hb
          subst hb
          intro pre mid post s hsh hpre hmid hw
          exact ⟨mid, mid, by simp, hsh, hmid, fun e => absurd e hx, hsh, Vu hmid, Imp.refl _⟩
      have := reads_app key h2
      simp only [wFs, shFs]
      exact this.weak (fun ds ⟨x, y, e1, e2, e3, e4, e5⟩ => by simp only [Vv]; exact ⟨x, y, e1, e4, e5, e2, e3⟩)
    · cases h
end
/-- What is read of a written struct. -/
theorem mP_ok {ver : Int} {tg flex : Bool} (htg : flex = true → tg = true) {fs : List Fld} {a r : List Ra} {off : Nat} (h : mP ver tg flex off fs a = some r) {t : Tree} (hf : FitT ver fs t) : Yc2 ver tg flex (shP tg fs) (UE ver tg flex fs t) a r off (YM ver flex fs t) := by
  unfold mP at h
  split at h
  · rename_i b hb
    exact Yb2 htg (mFs_ok ver tg flex htg fs a b off hb 0 t hf.1) h hf
  · cases h
end Go.Proofs.YtmihblfjhoblmaaGreatDoor

/- Reading a whole message: checked by reckoning, told in the reference's words. Over any program. -/
namespace Go.Proofs.YtmihblfjhoblmaaGreatDoor
open Go Go.RowKit

def isVer (ver : Int) (v : Value) : Bool := match v with
  | .int .i16 n => decide (n = ver) && decide (IntKind.i16.wrap n = n)
  | _ => false
def headVer (ver : Int) : List Value → Bool
  | v :: _ => isVer ver v
  | [] => false
/-- Does this function read this message at this version? -/
def readOk (P : Program) (K : Kr) (f : Nat) (ver : Int) (tg flex : Bool) (fs : List Fld) (cs : List Value) : Bool := match readF P K f cs with
  | some x => headVer ver x.1 && decide (shDs (Xi x.1) = .int .i16 :: shP tg fs) && endsA (mP ver tg flex 1 fs x.2)
  | none => false
where endsA : Option (List Ra) → Bool
  | some [] => true
  | _ => false
theorem read_ok {P : Program} {K : Kr} {g : Nat} {ev : Value} {w : World} (hK : KrOk P K g ev) (hT : KrTy P K) {f : Nat} {ver : Int} {tg flex : Bool} (htg : flex = true → tg = true) {fs : List Fld} {cs : List Value} (h : readOk P K f ver tg flex fs cs = true) {t : Tree} (hf : FitT ver fs t)
    {b sb : Nat} {e : TypeId} {v : Value} (hb : Box w b cs e) (hv : SrcAt w sb v (YM ver flex fs t)) (hsb : sb < w.heap.size) (hne : b ≠ sb) (hg : w.cell? ⟨g, 0, none⟩ = some ev) (hgb : g ≠ b) (hgl : g < w.heap.size) :
    Uq P f = true ∧ Calls P f #[.pointer (some ⟨b, 0, none⟩), v, .bool false] w fun en w' => en = .returned .nilIface ∧ ∃ cs' lo new, w.heap.size ≤ lo ∧ Box w' b cs' e ∧ YX (Dk sb lo w') w' (.lit (.int .i16 ver) :: new) cs' ∧ UE ver tg flex fs t new ∧ Chg (fun j => j = b ∨ w.heap.size ≤ j) w w' := by
  unfold readOk at h
  split at h
  · rename_i x hx
    simp only [Bool.and_eq_true, decide_eq_true_eq] at h
    obtain ⟨⟨h1, h2⟩, h3⟩ := h
    have hm : mP ver tg flex 1 fs x.2 = some [] := by
      unfold readOk.endsA at h3
      split at h3
      · assumption
      · cases h3
    obtain ⟨rest, hdfl⟩ : ∃ rest, x.1 = .int .i16 ver :: rest := by
      unfold headVer at h1
      split at h1
      · rename_i v0 r hx1
        unfold isVer at h1
        split at h1
        · rename_i n
          simp only [Bool.and_eq_true, decide_eq_true_eq] at h1
          exact ⟨r, by rw [hx1, h1.1]⟩
        · cases h1
      · cases h1
    have hlit : Xi x.1 = .lit (.int .i16 ver) :: Xi rest := by rw [hdfl]; rfl
    have hsh : shDs (Xi rest) = shP tg fs := by
      rw [hlit] at h2
      simp only [shDs, shD] at h2
      split at h2
      · simpa using h2
      · simp at h2
    obtain ⟨new, new', k1, k2, k3, k4, k5, k6, k7⟩ := mP_ok htg hm hf [.lit (.int .i16 ver)] (Xi rest) [] [] hsh (JM [_]) (JM _) rfl
    simp only [List.append_nil, List.cons_append, List.nil_append] at k1
    have hs : rdAs x.2 (Xi x.1) (YM ver flex fs t) = some (.lit (.int .i16 ver) :: new, []) := by
      rw [hlit, k1]; simp [rdAs]
    obtain ⟨r1, r2⟩ := readF_ok hK hT (dfl := x.1) (acts := x.2) hx hb hv hsb hne hg hgb hgl hs
    refine ⟨r1, r2.mono (fun en w' he => ?_)⟩
    obtain ⟨e1, cs', lo, e2, e3, e4, e5, e6⟩ := he
    exact ⟨e1, cs', lo, new', e2, e3, Imp.app (Imp.refl [.lit (.int .i16 ver)]) k7 _ _ _ e4, k4, e6⟩
  · cases h
end Go.Proofs.YtmihblfjhoblmaaGreatDoor

/- The fitted tree can be written, and what is written of it is what is written of the tree. No program in sight. -/
namespace Go.Proofs.YtmihblfjhoblmaaGreatDoor
open Go Go.RowKit

mutual
/-- What the package's code asks of a table at a version. -/
def tabF (ver : Int) : Fld → Bool
  | .mk kind _ _ nul _ _ of sub => (!decide (kind = 8) || !decide (0 ≤ nul) || decide (nul ≤ ver)) &&
    (if kind = 11 then (if of = 10 then JR ver sub else !decide (of = 11) && !decide (of = 7)) else if kind = 10 then JR ver sub else true)
def JR (ver : Int) : List Fld → Bool
  | [] => true
  | f :: fs => decide (f.tag < 0) && (!f.has ver || tabF ver f) && JR ver fs
end
theorem att_fitL (ver : Int) : ∀ (fs : List Fld) (i0 : Nat) (t t' : Tree) (k : Nat), (∀ j, j < fs.length → att t' (k + j) = (fitL ver fs i0 t).getD j Tree.none) → ∀ j (h : j < fs.length), att t' (k + j) = fitF ver fs[j] (att t (i0 + j)) := by
  intro fs i0 t t' k h j hj
  rw [h j hj, List.getD_eq_getElem?_getD, List.getElem?_eq_getElem (by rw [Ju]; exact hj)]
  simp only [Option.getD_some]
  exact fitL_get ver fs i0 t j hj
theorem att_fitP (ver : Int) (fs : List Fld) (t : Tree) (j : Nat) (h : j < fs.length) : att (Yk4 ver fs t) j = fitF ver fs[j] (att t j) := by
  have := att_fitL ver fs 0 t (Yk4 ver fs t) 0 (fun j hj => by simp [Yk4, att, Tree.l]) j h
  simpa using this
theorem Yc9 (b : Bool) (t : Tree) (i : Nat) : att (t.withNull b) i = att t i := by cases t; rfl
theorem UZ (b : Bool) (t : Tree) : (t.withNull b).u = t.u := by cases t; rfl
theorem withNull_nul (b : Bool) (t : Tree) : (t.withNull b).nul = b := by cases t; rfl
theorem wFs_congr (ver : Int) (flex : Bool) : ∀ (fs : List Fld) (i k : Nat) (t t' : Tree), (∀ j (h : j < fs.length), fs[j].has ver = true → Xk ver flex fs[j] (att t' (k + j)) = Xk ver flex fs[j] (att t (i + j))) → wFs ver flex fs k t' = wFs ver flex fs i t
  | [], _, _, _, _, _ => by simp [wFs]
  | f :: fs, i, k, t, t', h => by
    simp only [wFs]
    have h0 := h 0 (by simp)
    simp only [List.getElem_cons_zero, Nat.add_zero] at h0
    have e : (if f.tag < 0 ∧ f.has ver = true then Xk ver flex f (att t' k) else []) = (if f.tag < 0 ∧ f.has ver = true then Xk ver flex f (att t i) else []) := by
      split
      · rename_i hh; rw [h0 hh.2]
      · rfl
    rw [e]
    congr 1
    exact wFs_congr ver flex fs (i + 1) (k + 1) t t' (fun j hj hh => by
      have := h (j + 1) (by simpa using hj)
      simp only [List.getElem_cons_succ] at this
      rw [show k + 1 + j = k + (j + 1) by omega, show i + 1 + j = i + (j + 1) by omega]
      exact this hh)
theorem UW {fs : List Fld} (h : ∀ f ∈ fs, f.tag < 0) : YH fs = 0 := known_none fs 0 h
theorem JA {ver : Int} : ∀ {fs : List Fld}, JR ver fs = true → ∀ f ∈ fs, f.tag < 0
  | [], _, f, hf => by cases hf
  | g :: fs, h, f, hf => by
    simp only [JR, Bool.and_eq_true, decide_eq_true_eq] at h
    rcases List.mem_cons.1 hf with rfl | hm
    · exact h.1.1
    · exact JA h.2 f hm
theorem Ym1 (k : Nat) (v : List UInt8) : ∀ (u : List (Nat × List UInt8)), (∀ kv ∈ u, kv.1 < k) → YS k v u = u ++ [(k, v)]
  | [], _ => rfl
  | x :: u, h => by
    have := h x (by simp)
    simp only [YS, if_pos this, Ym1 k v u (fun y hy => h y (by simp [hy])), List.cons_append]
theorem fold_rising : ∀ (u acc : List (Nat × List UInt8)), Ve (acc ++ u) → u.foldl (fun out kv => if kv.1 < 0 then out else YS kv.1 kv.2 out) acc = acc ++ u
  | [], acc, _ => by simp
  | x :: u, acc, h => by
    simp only [List.foldl_cons, Nat.not_lt_zero, if_false]
    rw [Ym1 x.1 x.2 acc (fun kv hkv => (List.pairwise_append.1 h).2.2 kv hkv x (by simp))]
    have ih := fold_rising u (acc ++ [x]) (by simpa [List.append_assoc] using h)
    simp only [Nat.not_lt_zero, if_false] at ih
    rw [ih]; simp
theorem unknown_self {fs : List Fld} {u : List (Nat × List UInt8)} (hk : YH fs = 0) (hr : Ve u) (hl : u.length ≤ XQ) : YZ fs u = u := by
  unfold YZ
  rw [List.take_of_length_le hl, hk]
  have := fold_rising u [] (by simpa using hr)
  simpa using this
theorem Yl0 (k : Nat) (v : List UInt8) : ∀ (u : List (Nat × List UInt8)), (YS k v u).length ≤ u.length + 1
  | [] => by simp [YS]
  | x :: u => by
    simp only [YS]
    have := Yl0 k v u
    split
    · simp; omega
    · split <;> simp
theorem Yk8 (fs : List Fld) (u : List (Nat × List UInt8)) : (YZ fs u).length ≤ XQ := by
  unfold YZ
  have : ∀ (l out : List (Nat × List UInt8)), (l.foldl (fun out kv => if kv.1 < YH fs then out else YS kv.1 kv.2 out) out).length ≤ out.length + l.length := by
    intro l
    induction l with
    | nil => intro out; simp
    | cons x l ih =>
      intro out
      simp only [List.foldl_cons, List.length_cons]
      split
      · have := ih out; omega
      · have := ih (YS x.1 x.2 out); have := Yl0 x.1 x.2 out; omega
  have h := this (u.take XQ) []
  have : (u.take XQ).length ≤ XQ := by simp; omega
  simp only [List.length_nil] at h
  omega
theorem Yf5 (s : List UInt8) : whole (whole s) = whole s := by simp [whole, List.take_take]
theorem whole_len (s : List UInt8) : (whole s).length ≤ XQ := by simp [whole]; omega
theorem others_rising (fs : List Fld) (u : List (Nat × List UInt8)) : Ve (Xs fs u) := by
  unfold Xs Ve
  exact List.pairwise_map.2 (Jg fs u)
theorem Yk1 {fs : List Fld} (hk : YH fs = 0) (u : List (Nat × List UInt8)) : YZ fs (Xs fs u) = Xs fs u := unknown_self hk (others_rising fs u) (by simp [Xs, Yk8])
theorem allTags_fit {ver : Int} {flex : Bool} {fs : List Fld} (hk : YH fs = 0) (t t' : Tree) (h : t'.u = Xs fs t.u) : XR ver flex fs t' = XR ver flex fs t := by
  unfold XR
  rw [hk, h, Yk1 hk]
  simp only [List.range_zero, List.flatMap_nil, List.nil_append, Xs, List.map_map]
  refine List.map_congr_left (fun kv _ => ?_)
  simp [Yf5]
theorem fitVal_w (kind : Int) (flex : Bool) (p q : Tree → Tree) (wp : Tree → List UInt8) (null : Bool) (t : Tree) (h10 : kind = 10 → wp ((p t).withNull null) = wp t) : Xr kind flex null wp (Vx kind null p t) = Xr kind flex null wp t := by
  unfold Vx
  by_cases h8 : kind = 8 ∨ kind = 9
  · rw [if_pos h8]
    rcases h8 with rfl | rfl <;> simp [Xr, Tree.s, Yf5]
  · rw [if_neg h8]
    by_cases h : kind = 10
    · rw [if_pos h]; subst h; simp only [Xr]; simpa using h10 rfl
    · rw [if_neg h]
      have h8' : kind ≠ 8 := fun e => h8 (.inl e)
      have h9' : kind ≠ 9 := fun e => h8 (.inr e)
      simp [Xr, h8', h9', h, Tree.n, Tree.s]
theorem UQ (kind : Int) (null : Bool) (p : Tree → Tree) (t : Tree) (h : kind = 8 ∨ kind = 9 ∨ kind = 10) : (Vx kind null p t).nul = null := by
  unfold Vx
  rcases h with rfl | rfl | rfl
  · simp [Tree.nul]
  · simp [Tree.nul]
  · simp [withNull_nul]
theorem fld_null (kind fr upto nul tag df of : Int) (sub : List Fld) (ver : Int) (t : Tree) : (Fld.mk kind fr upto nul tag df of sub).null ver t = (t.nul && decide (0 ≤ nul) && decide (nul ≤ ver)) := rfl
theorem mk_nul (n : Int) (s : List UInt8) (b : Bool) (l : List Tree) (u : List (Nat × List UInt8)) : (Tree.mk n s b l u).nul = b := rfl
theorem mk_l (n : Int) (s : List UInt8) (b : Bool) (l : List Tree) (u : List (Nat × List UInt8)) : (Tree.mk n s b l u).l = l := rfl
theorem wPart_fit_of {ver : Int} {flex : Bool} {fs : List Fld} (ht : ∀ f ∈ fs, f.tag < 0) (h : ∀ j (hj : j < fs.length), fs[j].has ver = true → ∀ x, Xk ver flex fs[j] (fitF ver fs[j] x) = Xk ver flex fs[j] x) (t : Tree) (b : Bool) :
    YM ver flex fs ((Yk4 ver fs t).withNull b) = YM ver flex fs t := by
  unfold YM
  have e1 : wFs ver flex fs 0 ((Yk4 ver fs t).withNull b) = wFs ver flex fs 0 t := wFs_congr ver flex fs 0 0 t _ (fun j hj hh => by
    rw [Yc9]
    simp only [Nat.zero_add]
    rw [att_fitP ver fs t j hj]
    exact h j hj hh _)
  rw [e1, allTags_fit (UW ht) t _ (by rw [UZ]; rfl)]
mutual
theorem wField_fit (ver : Int) (flex : Bool) : ∀ (f : Fld), f.tag < 0 → tabF ver f = true → ∀ x, Xk ver flex f (fitF ver f x) = Xk ver flex f x
  | .mk kind fr upto nul tag df of sub, htag, htab, x => by
    have htag' : ¬ (0 ≤ tag) := by have : tag < 0 := htag; omega
    simp only [tabF, Bool.and_eq_true] at htab
    obtain ⟨h8, htab⟩ := htab
    rw [fitF_eq]
    rw [fld_null]
    simp only [Fld.kind, Fld.tag, Fld.of, Fld.sub]
    by_cases h11 : kind = 11
    · simp only [h11, if_true] at htab ⊢
      rw [VL ver flex 11 fr upto nul tag df of sub _ _ rfl, VL ver flex 11 fr upto nul tag df of sub x _ rfl]
      simp only [htag', decide_false, Bool.false_and, Bool.or_false, mk_nul, mk_l, if_true]
      have en : (x.nul && decide (0 ≤ nul) && decide (nul ≤ ver) && decide (0 ≤ nul) && decide (nul ≤ ver)) = (x.nul && decide (0 ≤ nul) && decide (nul ≤ ver)) := by
        cases x.nul <;> cases decide (0 ≤ nul) <;> cases decide (nul ≤ ver) <;> rfl
      rw [en]
      have el : Xo ((Xo x.l).map (Vx of false (Yk4 ver sub))) = (Xo x.l).map (Vx of false (Yk4 ver sub)) := Ye9 (by simp [Xo]; omega)
      rw [el]
      generalize (x.nul && decide (0 ≤ nul) && decide (nul ≤ ver)) = nb
      cases nb with
      | true => rfl
      | false =>
        simp only [Bool.false_eq_true, if_false, List.length_map, List.flatMap_map]
        congr 1
        refine congrArg (fun g => (Xo x.l).flatMap g) (funext fun y => ?_)
        refine fitVal_w of flex _ (Yk4 ver sub) _ false y (fun h10 => ?_)
        rw [if_pos h10] at htab
        exact Yg0 ver flex sub htab y false
    · simp only [h11, if_false] at htab ⊢
      rw [VL ver flex kind fr upto nul tag df of sub _ _ rfl, VL ver flex kind fr upto nul tag df of sub x _ rfl]
      simp only [h11, if_false]
      by_cases h10 : kind = 10
      · simp only [h10, if_true] at htab
        subst h10
        rw [UQ 10 _ _ _ (.inr (.inr rfl))]
        have en : (x.nul && decide (0 ≤ nul) && decide (nul ≤ ver) && decide (0 ≤ nul) && decide (nul ≤ ver)) = (x.nul && decide (0 ≤ nul) && decide (nul ≤ ver)) := by
          cases x.nul <;> cases decide (0 ≤ nul) <;> cases decide (nul ≤ ver) <;> rfl
        rw [en]
        have ew : YM ver flex sub (Vx 10 (x.nul && decide (0 ≤ nul) && decide (nul ≤ ver)) (Yk4 ver sub) x) = YM ver flex sub x := by
          simp only [Vx]
          exact Yg0 ver flex sub htab x _
        simp only [Xr, ew]
        rfl
      · simp only [h10, false_and, if_false]
        by_cases h89 : kind = 8 ∨ kind = 9
        · rw [UQ kind _ _ _ (by rcases h89 with h | h; exact .inl h; exact .inr (.inl h))]
          have en : (x.nul && decide (0 ≤ nul) && decide (nul ≤ ver) && decide (0 ≤ nul) && decide (nul ≤ ver)) = (x.nul && decide (0 ≤ nul) && decide (nul ≤ ver)) := by
            cases x.nul <;> cases decide (0 ≤ nul) <;> cases decide (nul ≤ ver) <;> rfl
          rw [en]
          exact fitVal_w kind flex _ (Yk4 ver sub) _ _ x (fun h => absurd h h10)
        · have a8 : kind ≠ 8 := fun e => h89 (.inl e)
          have a9 : kind ≠ 9 := fun e => h89 (.inr e)
          simp [Vx, Xr, a8, a9, h10, Tree.n, Tree.s]
theorem Yg0 (ver : Int) (flex : Bool) : ∀ (fs : List Fld), JR ver fs = true → ∀ (t : Tree) (b : Bool), YM ver flex fs ((Yk4 ver fs t).withNull b) = YM ver flex fs t
  | fs, h, t, b => wPart_fit_of (JA h) (wEach_fit ver flex fs h) t b
theorem wEach_fit (ver : Int) (flex : Bool) : ∀ (fs : List Fld), JR ver fs = true → ∀ j (hj : j < fs.length), fs[j].has ver = true → ∀ x, Xk ver flex fs[j] (fitF ver fs[j] x) = Xk ver flex fs[j] x
  | [], _, j, hj, _ => by cases hj
  | f :: fs, h, j, hj, hh => by
    simp only [JR, Bool.and_eq_true, Bool.or_eq_true, Bool.not_eq_true', decide_eq_true_eq] at h
    cases j with
    | zero =>
      intro x
      simp only [List.getElem_cons_zero] at hh ⊢
      refine wField_fit ver flex f h.1.1 ?_ x
      rcases h.1.2 with h1 | h1
      · rw [hh] at h1; cases h1
      · exact h1
    | succ j => exact wEach_fit ver flex fs h.2 j (by simpa using hj) hh
end
end Go.Proofs.YtmihblfjhoblmaaGreatDoor

/- What the walks ask of trees and fields, as plain facts. No Go in sight. -/
namespace Go.Proofs.YtmihblfjhoblmaaGreatDoor

mutual
/-- Lengths and tags Ym3 what a machine holds. -/
def Tree.ok : Tree → Prop
  | .mk n s _ l u => s.length ≤ 9223372036854775807 ∧ (∀ kv ∈ u, kv.1 < 4294967296) ∧ Tree.oks l ∧ (-9223372036854775808 ≤ n ∧ n ≤ 9223372036854775807)
def Tree.oks : List Tree → Prop
  | [] => True
  | t :: l => t.ok ∧ Tree.oks l
end
mutual
def Fld.okb : Fld → Bool
  | .mk _ _ _ _ tag _ of sub => decide (tag < 2147483647) && decide (of ≠ 11) && Nat.ble sub.length 1000 && Fld.oksb sub
def Fld.oksb : List Fld → Bool
  | [] => true
  | f :: l => f.okb && Fld.oksb l
end
theorem Tree.oks_mem : ∀ {l : List Tree}, Tree.oks l → ∀ t ∈ l, t.ok
  | [], _, t, h => by cases h
  | x :: l, h, t, ht => by
    simp only [Tree.oks] at h
    rcases List.mem_cons.1 ht with rfl | h1
    · exact h.1
    · exact Tree.oks_mem h.2 t h1
theorem Tree.ok_none : Tree.none.ok := by simp [Tree.none, Tree.ok, Tree.oks]
theorem Tree.ok.at {t : Tree} (h : t.ok) (i : Nat) : (att t i).ok := by
  cases t with
  | mk n s nul l u =>
    simp only [Tree.ok] at h
    unfold att
    by_cases hi : i < l.length
    · have : (Tree.mk n s nul l u).l.getD i Tree.none = l[i] := by simp [Tree.l, hi]
      rw [this]; exact Tree.oks_mem h.2.2.1 _ (List.getElem_mem _)
    · have : (Tree.mk n s nul l u).l.getD i Tree.none = Tree.none := by simp [Tree.l, List.getD, List.getElem?_eq_none (by omega : l.length ≤ i)]
      rw [this]; exact Tree.ok_none
theorem Tree.ok.s {t : Tree} (h : t.ok) : t.s.length ≤ 9223372036854775807 := by cases t; simp only [Tree.ok] at h; exact h.1
theorem Tree.ok.u {t : Tree} (h : t.ok) : ∀ kv ∈ t.u, kv.1 < 4294967296 := by cases t; simp only [Tree.ok] at h; exact h.2.1
theorem Tree.ok.l {t : Tree} (h : t.ok) : ∀ x ∈ t.l, x.ok := by cases t; simp only [Tree.ok] at h; exact Tree.oks_mem h.2.2.1
theorem Tree.ok.n {t : Tree} (h : t.ok) : -9223372036854775808 ≤ t.n ∧ t.n ≤ 9223372036854775807 := by cases t; simp only [Tree.ok] at h; exact h.2.2.2
mutual
/-- Lists that are not long. -/
def Tree.small : Tree → Prop
  | .mk _ _ _ l u => (l.length ≤ 1000000000 ∧ u.length ≤ 1000000000) ∧ Tree.smalls l
def Tree.smalls : List Tree → Prop
  | [] => True
  | t :: l => t.small ∧ Tree.smalls l
end
theorem Tree.smalls_mem : ∀ {l : List Tree}, Tree.smalls l → ∀ t ∈ l, t.small
  | [], _, t, h => by cases h
  | x :: l, h, t, ht => by
    simp only [Tree.smalls] at h
    rcases List.mem_cons.1 ht with rfl | h1
    · exact h.1
    · exact Tree.smalls_mem h.2 t h1
theorem Tree.small.lens {t : Tree} (h : t.small) : t.l.length ≤ 1000000000 ∧ t.u.length ≤ 1000000000 := by cases t; simp only [Tree.small] at h; exact h.1
theorem Tree.small.l {t : Tree} (h : t.small) : ∀ x ∈ t.l, x.small := by cases t; simp only [Tree.small] at h; exact Tree.smalls_mem h.2
theorem Fld.oksb_mem : ∀ {l : List Fld}, Fld.oksb l = true → ∀ f ∈ l, f.okb = true
  | [], _, t, h => by cases h
  | x :: l, h, t, ht => by
    simp only [Fld.oksb, Bool.and_eq_true] at h
    rcases List.mem_cons.1 ht with rfl | h1
    · exact h.1
    · exact Fld.oksb_mem h.2 t h1
theorem Fld.okb_tag {f : Fld} (h : f.okb = true) : f.tag < 2147483647 := by
  cases f; simp only [Fld.okb, Bool.and_eq_true, decide_eq_true_eq] at h; exact h.1.1.1
theorem Fld.okb_sub {f : Fld} (h : f.okb = true) : Fld.oksb f.sub = true ∧ f.sub.length ≤ 1000 := by
  cases f; simp only [Fld.okb, Bool.and_eq_true, decide_eq_true_eq] at h; exact ⟨h.2, Nat.le_of_ble_eq_true h.1.2⟩
/-- Fields that the walks speak of. -/
def Yb7 (fs : List Fld) : Bool := Fld.oksb fs && Nat.ble fs.length 1000
theorem Yb7.sub {f : Fld} (h : f.okb = true) : Yb7 f.sub = true := by
  have := Fld.okb_sub h
  simp only [Yb7, Bool.and_eq_true]
  exact ⟨this.1, Nat.ble_eq_true_of_le this.2⟩
theorem Yb7.mem {fs : List Fld} (h : Yb7 fs = true) : ∀ f ∈ fs, f.okb = true := by
  simp only [Yb7, Bool.and_eq_true] at h; exact Fld.oksb_mem h.1
theorem Yb7.len {fs : List Fld} (h : Yb7 fs = true) : fs.length ≤ 1000 := by
  simp only [Yb7, Bool.and_eq_true] at h; exact Nat.le_of_ble_eq_true h.2
theorem Yb7.tag {fs : List Fld} (h : Yb7 fs = true) : ∀ f ∈ fs, f.tag < 2147483647 := fun f hf => Fld.okb_tag (Yb7.mem h f hf)
end Go.Proofs.YtmihblfjhoblmaaGreatDoor

/- The fitted tree can be written. No program in sight. -/
namespace Go.Proofs.YtmihblfjhoblmaaGreatDoor
open Go Go.RowKit

theorem fitU_fit {fs : List Fld} (hk : YH fs = 0) {t t' : Tree} (ho : ∀ kv ∈ t.u, kv.1 < 4294967296) (h : t'.u = Xs fs t.u) : FitU fs t' := by
  have sub : ∀ kv ∈ YZ fs t.u, ∃ x ∈ t.u, x.1 = kv.1 := by
    unfold YZ
    have put : ∀ (k : Nat) (v : List UInt8) (u : List (Nat × List UInt8)), ∀ kv ∈ YS k v u, kv.1 = k ∨ kv ∈ u := by
      intro k v u
      induction u with
      | nil => intro kv h; simp [YS] at h; subst h; exact .inl rfl
      | cons x u ih =>
        intro kv h
        simp only [YS] at h
        split at h
        · rcases List.mem_cons.1 h with rfl | h
          · exact .inr (by simp)
          · rcases ih kv h with h | h
            · exact .inl h
            · exact .inr (by simp [h])
        · split at h
          · exact .inr h
          · rcases List.mem_cons.1 h with rfl | h
            · exact .inl rfl
            · exact .inr h
    have : ∀ (l out : List (Nat × List UInt8)), ∀ kv ∈ l.foldl (fun out kv => if kv.1 < YH fs then out else YS kv.1 kv.2 out) out, (∃ x ∈ l, x.1 = kv.1) ∨ kv ∈ out := by
      intro l
      induction l with
      | nil => intro out kv h; exact .inr h
      | cons x l ih =>
        intro out kv h
        simp only [List.foldl_cons] at h
        rcases ih _ kv h with ⟨y, hy, e⟩ | h
        · exact .inl ⟨y, by simp [hy], e⟩
        · split at h
          · exact .inr h
          · rcases put _ _ _ kv h with h | h
            · exact .inl ⟨x, by simp, h.symm⟩
            · exact .inr h
    intro kv hkv
    rcases this _ _ kv hkv with ⟨x, hx, e⟩ | h
    · exact ⟨x, List.mem_of_mem_take hx, e⟩
    · cases h
  refine ⟨by rw [h, Yk1 hk], ?_, by rw [h]; simp [Xs, Yk8]⟩
  intro kv hkv
  rw [h] at hkv
  simp only [Xs, List.mem_map] at hkv
  obtain ⟨x, hx, rfl⟩ := hkv
  obtain ⟨y, hy, e⟩ := sub x hx
  have := ho y hy
  exact ⟨by show x.1 < _; omega, whole_len _⟩
theorem fitV_fit (kind : Int) (null : Bool) (p : Tree → Tree) (t : Tree) (h10 : kind ≠ 10) : FitV kind (Vx kind null p t) := by
  intro h
  unfold Vx
  rw [if_pos h]
  exact whole_len _
mutual
theorem fitF_ok (ver : Int) : ∀ (f : Fld), f.tag < 0 → tabF ver f = true → ∀ x : Tree, x.ok → FitF ver f (fitF ver f x)
  | .mk kind fr upto nul tag df of sub, htag, htab, x, hx => by
    have htag' : ¬ (0 ≤ tag) := by have : tag < 0 := htag; omega
    simp only [tabF, Bool.and_eq_true] at htab
    obtain ⟨h8, htab⟩ := htab
    have h8' : kind = 8 → 0 ≤ nul → nul ≤ ver := by
      intro e1 e2
      simp [e1, e2] at h8
      exact h8
    have hnn : ∀ b : Bool, b = (x.nul && decide (0 ≤ nul) && decide (nul ≤ ver)) → b = true → nul ≤ ver := by
      intro b e1 e2
      rw [e1] at e2
      simp only [Bool.and_eq_true, decide_eq_true_eq] at e2
      exact e2.2
    rw [fitF_eq]
    rw [fld_null]
    simp only [Fld.kind, Fld.tag, Fld.of, Fld.sub, FitF]
    by_cases h11 : kind = 11
    · simp only [h11, if_true] at htab ⊢
      simp only [htag', decide_false, Bool.false_and, Bool.or_false, mk_nul, mk_l]
      refine ⟨fun _ e => hnn _ rfl e, fun e => by omega, by simp [Xo]; omega, fun h10 => ?_, fun h10 => ?_⟩
      · rw [if_pos h10] at htab
        intro y hy
        obtain ⟨z, hz, rfl⟩ := List.mem_map.1 hy
        have hzo := hx.l z (List.mem_of_mem_take hz)
        subst h10
        simp only [Vx]
        exact ⟨Ya2 ver sub htab z hzo false, fitU_fit (UW (JA htab)) hzo.u (by show ((Yk4 ver sub z).withNull false).u = _; rw [UZ]; rfl)⟩
      · rw [if_neg h10] at htab
        simp at htab
        refine ⟨htab, fun y hy => ?_⟩
        obtain ⟨z, hz, rfl⟩ := List.mem_map.1 hy
        exact fitV_fit of false _ z h10
    · simp only [h11, if_false] at htab ⊢
      by_cases h10 : kind = 10
      · simp only [h10, if_true] at htab ⊢
        refine ⟨fun _ e => ?_, fun e => by omega, ?_, ?_⟩
        · rw [UQ 10 _ _ _ (.inr (.inr rfl))] at e
          exact hnn _ rfl e
        · simp only [Vx]
          exact Ya2 ver sub htab x hx _
        · exact fitU_fit (UW (JA htab)) hx.u (by subst h10; show ((Yk4 ver sub x).withNull _).u = _; rw [UZ]; rfl)
      · simp only [h10, if_false]
        refine ⟨fun _ e => ?_, h8', fitV_fit kind _ _ x h10⟩
        by_cases h89 : kind = 8 ∨ kind = 9
        · rw [UQ kind _ _ _ (by rcases h89 with h | h; exact .inl h; exact .inr (.inl h))] at e
          exact hnn _ rfl e
        · unfold Vx at e
          rw [if_neg h89, if_neg h10] at e
          cases e
theorem Ya2 (ver : Int) : ∀ (fs : List Fld), JR ver fs = true → ∀ (t : Tree), t.ok → ∀ b, Jf ver fs 0 ((Yk4 ver fs t).withNull b)
  | fs, h, t, ht, b => fitFs_ok ver fs h 0 _ (fun j hj => ⟨att t j, ht.at j, by rw [Yc9, Nat.zero_add, att_fitP ver fs t j hj]⟩)
theorem fitFs_ok (ver : Int) : ∀ (fs : List Fld), JR ver fs = true → ∀ (i : Nat) (t' : Tree), (∀ j (hj : j < fs.length), ∃ x : Tree, x.ok ∧ att t' (i + j) = fitF ver fs[j] x) → Jf ver fs i t'
  | [], _, _, _, _ => by simp [Jf]
  | f :: fs, h, i, t', hall => by
    simp only [JR, Bool.and_eq_true, Bool.or_eq_true, Bool.not_eq_true', decide_eq_true_eq] at h
    simp only [Jf]
    refine ⟨h.1.1, fun hh => ?_, fitFs_ok ver fs h.2 (i + 1) t' (fun j hj => ?_)⟩
    · obtain ⟨x, hx, e⟩ := hall 0 (by simp)
      simp only [Nat.add_zero, List.getElem_cons_zero] at e
      rw [e]
      refine fitF_ok ver f h.1.1 ?_ x hx
      rcases h.1.2 with h1 | h1
      · rw [hh] at h1; cases h1
      · exact h1
    · obtain ⟨x, hx, e⟩ := hall (j + 1) (by simpa using hj)
      exact ⟨x, hx, by rw [show i + 1 + j = i + (j + 1) by omega, e]; simp⟩
end
/-- The fitted tree can be written; it is written as the tree is. -/
theorem fitt_ok {ver : Int} {fs : List Fld} (h : JR ver fs = true) {t : Tree} (ht : t.ok) (flex : Bool) : FitT ver fs ((Yk4 ver fs t).withNull false) ∧ YM ver flex fs ((Yk4 ver fs t).withNull false) = YM ver flex fs t :=
  ⟨⟨Ya2 ver fs h t ht false, fitU_fit (UW (JA h)) ht.u (by rw [UZ]; rfl)⟩, Yg0 ver flex fs h t false⟩
end Go.Proofs.YtmihblfjhoblmaaGreatDoor

/- How long what is written is at the most: so many octets for each value and letter of the tree. No Go in sight. -/
namespace Go.Proofs.YtmihblfjhoblmaaGreatDoor

def Vl (u : List (Nat × List UInt8)) : Nat := (u.map fun kv => kv.2.length + 1).sum
mutual
/-- All values and letters of a tree. -/
def Tree.wt : Tree → Nat
  | .mk _ s _ l u => 1 + s.length + Vl u + Tree.wts l
def Tree.wts : List Tree → Nat
  | [] => 0
  | t :: l => t.wt + Tree.wts l
end
mutual
def Fld.cost : Fld → Nat
  | .mk _ _ _ _ _ _ _ sub => 60 + ((1 + YH sub) * Fld.costs sub + 60)
def Fld.costs : List Fld → Nat
  | [] => 0
  | f :: l => f.cost + 30 + Fld.costs l
end
/-- What a part costs. -/
def partCost (fs : List Fld) : Nat := (1 + YH fs) * Fld.costs fs + 60
theorem Tree.wt_pos (t : Tree) : 1 ≤ t.wt := by cases t; simp only [Tree.wt]; omega
theorem wts_mem : ∀ {l : List Tree} {t : Tree}, t ∈ l → t.wt ≤ Tree.wts l
  | x :: l, t, h => by
    simp only [Tree.wts]
    rcases List.mem_cons.1 h with rfl | h1
    · omega
    · have := wts_mem h1; omega
theorem wts_take : ∀ (l : List Tree) (n : Nat), Tree.wts (l.take n) ≤ Tree.wts l
  | [], n => by simp
  | x :: l, 0 => by simp [Tree.wts]
  | x :: l, n + 1 => by simp only [List.take_succ_cons, Tree.wts]; have := wts_take l n; omega
theorem att_wt (t : Tree) (i : Nat) : (att t i).wt ≤ t.wt := by
  cases t with
  | mk n s nul l u =>
    unfold att
    by_cases hi : i < l.length
    · have e : (Tree.mk n s nul l u).l.getD i Tree.none = l[i] := by simp [Tree.l, hi]
      rw [e]
      have := wts_mem (List.getElem_mem hi)
      simp only [Tree.wt]; omega
    · have e : (Tree.mk n s nul l u).l.getD i Tree.none = Tree.none := by simp [Tree.l, List.getD, List.getElem?_eq_none (by omega : l.length ≤ i)]
      rw [e]
      simp only [Tree.none, Tree.wt, Vl, Tree.wts]; simp; omega
theorem s_wt (t : Tree) : t.s.length + 1 ≤ t.wt := by cases t; simp only [Tree.wt, Tree.s]; omega
theorem l_wt (t : Tree) : Tree.wts t.l + 1 ≤ t.wt := by cases t; simp only [Tree.wt, Tree.l]; omega
theorem u_wt (t : Tree) : Vl t.u + 1 ≤ t.wt := by cases t; simp only [Tree.wt, Tree.u]; omega

theorem uvar_le6 (n : Nat) (h : n < 34359738368) : (uvar n).length ≤ 6 := by
  rw [uvar]; split
  · simp
  · rw [uvar]; split
    · simp
    · rw [uvar]; split
      · simp
      · rw [uvar]; split
        · simp
        · rw [uvar]; split
          · simp
          · omega
theorem be_len : ∀ (k : Nat) (n : Int), (be k n).length = k
  | 0, _ => rfl
  | k + 1, n => by simp only [be, List.length_cons, be_len k n]
theorem Ya8 (flex null : Bool) (n size : Nat) (hn : n ≤ 1000000) (hs : size ≤ 8) : (YF flex null n size).length ≤ 8 := by
  unfold YF
  split
  · split
    · simp
    · exact Nat.le_trans (uvar_le6 _ (by omega)) (by omega)
  · split <;> rw [be_len] <;> exact hs
theorem whole_le (s : List UInt8) : (whole s).length ≤ s.length ∧ (whole s).length ≤ 32767 := by
  unfold whole XQ; rw [List.length_take]; omega
theorem width8 (k : Int) : width k ≤ 8 := by
  unfold width
  split
  · omega
  · split
    · omega
    · split <;> omega
theorem wVal_le (kind : Int) (flex null : Bool) (p : Tree → List UInt8) (t : Tree) (c : Nat) (hp : (p t).length ≤ c * t.wt) : (Xr kind flex null p t).length ≤ (c + 24) * t.wt := by
  have h1 := t.wt_pos
  have hs := s_wt t
  have hw := whole_le t.s
  have hif : (if null then ([] : List UInt8) else whole t.s).length ≤ t.s.length ∧ (if null then ([] : List UInt8) else whole t.s).length ≤ 32767 := by
    cases null
    · exact hw
    · simp
  have hmul : (c + 24) * t.wt = c * t.wt + 24 * t.wt := by rw [Nat.add_mul]
  unfold Xr
  split
  · simp; omega
  · split
    · simp only [XL, List.length_take]; omega
    · split
      · have := Ya8 flex null (if null then ([] : List UInt8) else whole t.s).length 2 (by omega) (by omega)
        rw [List.length_append]; omega
      · split
        · have := Ya8 flex null (if null then ([] : List UInt8) else whole t.s).length 4 (by omega) (by omega)
          rw [List.length_append]; omega
        · split
          · omega
          · rw [be_len]
            have := width8 kind
            omega

/-- The tags' octets. -/
def Jr (l : List (Nat × List UInt8)) : Nat := (l.map fun kv => (Jj kv.1 kv.2).length).sum
theorem tagsB_append (a b : List (Nat × List UInt8)) : Jr (a ++ b) = Jr a + Jr b := by simp [Jr]
theorem flat_tagsB (l : List (Nat × List UInt8)) : (l.flatMap fun kv => Jj kv.1 kv.2).length = Jr l := by
  induction l with
  | nil => rfl
  | cons a l ih => simp [Jr]
theorem tagsW_append (a b : List (Nat × List UInt8)) : Vl (a ++ b) = Vl a + Vl b := by simp [Vl]
theorem putTag_W (k : Nat) (v : List UInt8) (l : List (Nat × List UInt8)) : Vl (YS k v l) ≤ Vl l + v.length + 1 := by
  induction l with
  | nil => simp [YS, Vl]
  | cons a l ih =>
    simp only [YS]
    split
    · simp only [Vl, List.map_cons, List.sum_cons] at *; omega
    · split
      · omega
      · simp only [Vl, List.map_cons, List.sum_cons]; omega
theorem unknown_W (fs : List Fld) (u : List (Nat × List UInt8)) : Vl (YZ fs u) ≤ Vl u := by
  have gen : ∀ (l out : List (Nat × List UInt8)), Vl (l.foldl (fun out kv => if kv.1 < YH fs then out else YS kv.1 kv.2 out) out) ≤ Vl out + Vl l := by
    intro l
    induction l with
    | nil => intro out; simp [Vl]
    | cons a l ih =>
      intro out
      have h1 := ih (if a.1 < YH fs then out else YS a.1 a.2 out)
      have h2 : Vl (if a.1 < YH fs then out else YS a.1 a.2 out) ≤ Vl out + a.2.length + 1 := by
        split
        · omega
        · exact putTag_W _ _ _
      simp only [List.foldl_cons]
      simp only [Vl, List.map_cons, List.sum_cons] at *
      omega
  have ht : Vl (u.take XQ) ≤ Vl u := by
    have : Vl u = Vl (u.take XQ) + Vl (u.drop XQ) := by rw [← tagsW_append, List.take_append_drop]
    omega
  have h0 : Vl ([] : List (Nat × List UInt8)) = 0 := rfl
  have := gen (u.take XQ) []
  unfold YZ
  omega
theorem putTag_key (k : Nat) (v : List UInt8) (l : List (Nat × List UInt8)) : ∀ x ∈ YS k v l, x = (k, v) ∨ x ∈ l := by
  induction l with
  | nil => intro x hx; simp [YS] at hx; exact .inl hx
  | cons a l ih =>
    intro x hx
    simp only [YS] at hx
    split at hx
    · rcases List.mem_cons.1 hx with rfl | h
      · exact .inr (by simp)
      · rcases ih x h with h | h
        · exact .inl h
        · exact .inr (by simp [h])
    · split at hx
      · exact .inr hx
      · rcases List.mem_cons.1 hx with rfl | h
        · exact .inl rfl
        · exact .inr h
theorem unknown_in (fs : List Fld) (u : List (Nat × List UInt8)) : ∀ x ∈ YZ fs u, x ∈ u := by
  have gen : ∀ (l out : List (Nat × List UInt8)), ∀ x ∈ l.foldl (fun out kv => if kv.1 < YH fs then out else YS kv.1 kv.2 out) out, x ∈ out ∨ x ∈ l := by
    intro l
    induction l with
    | nil => intro out x hx; exact .inl hx
    | cons a l ih =>
      intro out x hx
      rcases ih _ x hx with h | h
      · simp only [] at h
        split at h
        · exact .inl h
        · rcases putTag_key _ _ _ x h with rfl | h
          · exact .inr (by simp)
          · exact .inl h
      · exact .inr (by simp [h])
  intro x hx
  rcases gen (u.take XQ) [] x hx with h | h
  · cases h
  · exact List.mem_of_mem_take h
theorem others_le (fs : List Fld) (t : Tree) (hok : t.ok) : Jr (Xs fs t.u) ≤ 14 * t.wt := by
  have h1 := unknown_W fs t.u
  have h2 := u_wt t
  have h3 : Jr (Xs fs t.u) ≤ 13 * Vl (YZ fs t.u) := by
    have gen : ∀ l : List (Nat × List UInt8), (∀ kv ∈ l, kv.1 < 4294967296) → Jr (l.map fun kv => (kv.1, whole kv.2)) ≤ 13 * Vl l := by
      intro l
      induction l with
      | nil => intro _; simp [Jr]
      | cons a l ih =>
        intro h
        have := ih (fun x hx => h x (by simp [hx]))
        have ha := uvar_le6 a.1 (by have := h a (by simp); omega)
        have hb := uvar_le6 (whole a.2).length (by have := (whole_le a.2).2; omega)
        have hc := (whole_le a.2).1
        simp only [Jr, Vl, List.map_cons, List.sum_cons, Jj, List.length_append] at *
        omega
    exact gen _ (fun kv hkv => hok.u kv (unknown_in fs t.u kv hkv))
  omega

theorem things_le (g : Tree → List UInt8) (c : Nat) : ∀ (l : List Tree), (∀ x ∈ l, (g x).length ≤ c * x.wt) → (l.flatMap g).length ≤ c * Tree.wts l
  | [], _ => by simp
  | x :: l, h => by
    have h1 := h x (by simp)
    have h2 := things_le g c l (fun y hy => h y (by simp [hy]))
    simp only [List.flatMap_cons, List.length_append, Tree.wts, Nat.mul_add]; omega
end Go.Proofs.YtmihblfjhoblmaaGreatDoor

/- How long what is written is at the most: whatever is said; and by the values and letters of the tree. No Go in sight. -/
namespace Go.Proofs.YtmihblfjhoblmaaGreatDoor

theorem uvar_le1 (n : Nat) : (uvar n).length ≤ n + 1 := by
  induction n using Nat.strongRecOn with
  | _ n ih =>
    rw [uvar]; split
    · simp
    · have := ih (n / 128) (by omega)
      simp only [List.length_cons]; omega
theorem uvar_few (a b : Nat) (h : b ≤ 32767) : (uvar (a + b)).length ≤ a + 258 := by
  rw [uvar]; split
  · simp
  · have := uvar_le1 ((a + b) / 128)
    simp only [List.length_cons]; omega
/-- Tags with their octets, one more for each. -/
def Jq (l : List (Nat × List UInt8)) : Nat := (l.map fun kv => 1 + (Jj kv.1 kv.2).length).sum
theorem tagsC_eq (l : List (Nat × List UInt8)) : Jq l = l.length + Jr l := by
  induction l with
  | nil => rfl
  | cons a l ih => simp only [Jq, Jr, List.map_cons, List.sum_cons, List.length_cons] at *; omega
theorem Yd1 (a b : List (Nat × List UInt8)) : Jq (a ++ b) = Jq a + Jq b := by simp [Jq]
theorem Yj4 (g : Nat → List (Nat × List UInt8)) (M : Nat) : ∀ n, (∀ k, Jq (g k) ≤ M) → Jq ((List.range n).flatMap g) ≤ n * M
  | 0, _ => by simp [Jq]
  | n + 1, h => by
    rw [List.range_succ, List.flatMap_append, Yd1, Nat.succ_mul]
    have := Yj4 g M n h
    have := h n
    simp only [List.flatMap_cons, List.flatMap_nil, List.append_nil]; omega
theorem unknown_few (fs : List Fld) (u : List (Nat × List UInt8)) : (YZ fs u).length ≤ 32767 := by
  have put : ∀ (k : Nat) (v : List UInt8) (l : List (Nat × List UInt8)), (YS k v l).length ≤ l.length + 1 := by
    intro k v l
    induction l with
    | nil => simp [YS]
    | cons a l ih =>
      simp only [YS]
      split
      · simp; omega
      · split
        · simp
        · simp
  have gen : ∀ (l out : List (Nat × List UInt8)), (l.foldl (fun out kv => if kv.1 < YH fs then out else YS kv.1 kv.2 out) out).length ≤ out.length + l.length := by
    intro l
    induction l with
    | nil => intro out; simp
    | cons a l ih =>
      intro out
      have h1 := ih (if a.1 < YH fs then out else YS a.1 a.2 out)
      have h2 : (if a.1 < YH fs then out else YS a.1 a.2 out).length ≤ out.length + 1 := by
        split
        · omega
        · exact put _ _ _
      simp only [List.foldl_cons, List.length_cons]; omega
  have h := gen (u.take XQ) []
  have hM : (u.take XQ).length ≤ 32767 := by rw [List.length_take]; exact Nat.min_le_left _ _
  unfold YZ
  simp only [List.length_nil] at h; omega
theorem others_few (fs : List Fld) (u : List (Nat × List UInt8)) : (Xs fs u).length ≤ 32767 := by
  simp only [Xs, List.length_map]; exact unknown_few fs u
/-- A part's length, out of its fields' and its tags'. -/
theorem part_leF (ver : Int) (flex : Bool) (fs : List Fld) (t : Tree) (M O : Nat) (hF : (wFs ver flex fs 0 t).length ≤ M) (hT : ∀ k, Jq (wTs ver flex fs 0 k t) ≤ M) (hO : Jr (Xs fs t.u) ≤ O) :
    (YM ver flex fs t).length ≤ (1 + YH fs) * M + (bif flex then O + 258 else 0) := by
  unfold YM asm
  rw [Nat.add_mul]
  cases flex with
  | false => simp only [Bool.false_eq_true, if_false, cond_false]; omega
  | true =>
    simp only [if_true, cond_true, List.length_append, flat_tagsB]
    have h1 := Yj4 (fun k => wTs ver true fs 0 k t) M (YH fs) hT
    have h2 : XR ver true fs t = (List.range (YH fs)).flatMap (fun k => wTs ver true fs 0 k t) ++ Xs fs t.u := rfl
    rw [h2, tagsB_append, List.length_append]
    have h3 := uvar_few ((List.range (YH fs)).flatMap (fun k => wTs ver true fs 0 k t)).length (Xs fs t.u).length (others_few fs t.u)
    have h4 := tagsC_eq ((List.range (YH fs)).flatMap (fun k => wTs ver true fs 0 k t))
    omega
theorem part_le (ver : Int) (flex : Bool) (fs : List Fld) (t : Tree) (M O : Nat) (hF : (wFs ver flex fs 0 t).length ≤ M) (hT : ∀ k, Jq (wTs ver flex fs 0 k t) ≤ M) (hO : Jr (Xs fs t.u) ≤ O) :
    (YM ver flex fs t).length ≤ (1 + YH fs) * M + (O + 258) := Nat.le_trans (part_leF ver flex fs t M O hF hT hO) (by cases flex <;> simp)
/-- A field's octets as a tag. -/
def Yi6 (tag : Int) (n : Nat) : Nat := if tag < 0 then n else n + n + tag.toNat + 3
theorem le_tagged (tag : Int) (n : Nat) : n ≤ Yi6 tag n := by unfold Yi6; split <;> omega
theorem tag_le (k : Nat) (b : List UInt8) (n : Nat) (h : b.length ≤ n) : 1 + (Jj k b).length ≤ n + n + k + 3 := by
  have h1 := uvar_le1 k
  have h2 := uvar_le1 b.length
  simp only [Jj, List.length_append]; omega
/-- All YZ tags of a part. -/
def oF (fl : Bool) : Nat := bif fl then 1074069751 else 0
mutual
/-- The most that is written of a field. -/
def Fld.most (fl : Bool) : Fld → Nat
  | .mk kind _ _ _ _ _ of sub =>
    if kind = 11 then 8 + 32767 * (if of = 10 then (1 + YH sub) * Fld.mosts fl sub + oF fl else 32783)
    else if kind = 10 then 1 + ((1 + YH sub) * Fld.mosts fl sub + oF fl) else 32783
def Fld.mosts (fl : Bool) : List Fld → Nat
  | [] => 0
  | f :: fs => Yi6 f.tag (f.most fl) + Fld.mosts fl fs
end
def partMost (fl : Bool) (fs : List Fld) : Nat := (1 + YH fs) * Fld.mosts fl fs + oF fl
theorem wVal_part (flex null : Bool) (p : Tree → List UInt8) (t : Tree) : Xr 10 flex null p t = p t := by simp [Xr]
theorem things_few (l : List Tree) : (Xo l).length ≤ 32767 := by unfold Xo XQ; rw [List.length_take]; omega
mutual
/-- What a field costs by value and letter. -/
def Fld.price : Fld → Nat
  | .mk _ _ _ _ _ _ _ sub => ((1 + YH sub) * Fld.prices sub + 272) + 24 + 9
def Fld.prices : List Fld → Nat
  | [] => 0
  | f :: fs => Yi6 f.tag f.price + Fld.prices fs
end
def JD (fs : List Fld) : Nat := (1 + YH fs) * Fld.prices fs + 272
theorem tagged_mul (tag : Int) (n k w : Nat) (ht : tag = (k : Int)) (hw : 1 ≤ w) : n * w + n * w + k + 3 ≤ Yi6 tag n * w := by
  unfold Yi6
  rw [if_neg (by omega)]
  have : tag.toNat = k := by omega
  rw [this, Nat.add_mul, Nat.add_mul, Nat.add_mul]
  have : k * 1 ≤ k * w := Nat.mul_le_mul_left _ hw
  omega
mutual
theorem Yc5 (ver : Int) (flex : Bool) : ∀ (f : Fld) (t : Tree), t.ok → (Xk ver flex f t).length ≤ f.price * t.wt
  | .mk kind fr upto nul tag df of sub, t, ht => by
    have hw := t.wt_pos
    have hp : ∀ x : Tree, x.ok → (YM ver flex sub x).length ≤ ((1 + YH sub) * Fld.prices sub + 272) * x.wt := fun x hx => by
      have hx1 := x.wt_pos
      have := part_le ver flex sub x (Fld.prices sub * x.wt) (14 * x.wt) (Yh0 ver flex sub 0 x hx) (fun k => Yg5 ver flex sub 0 k x hx) (others_le sub x hx)
      rw [Nat.add_mul, Nat.mul_assoc]
      omega
    rw [VL ver flex kind fr upto nul tag df of sub t _ rfl]
    simp only [Fld.price]
    generalize (1 + YH sub) * Fld.prices sub + 272 = c at hp ⊢
    have hc : (c + 24 + 9) * t.wt = (c + 24) * t.wt + 9 * t.wt := Nat.add_mul _ _ _
    by_cases h11 : kind = 11
    · simp only [h11, if_true]
      generalize (t.nul && decide (0 ≤ nul) && decide (nul ≤ ver)) = null
      have hlen : (if null then ([] : List Tree) else Xo t.l).length ≤ 32767 := by
        cases null
        · exact things_few t.l
        · simp
      have hmem : ∀ x ∈ (if null then ([] : List Tree) else Xo t.l), x.ok := by
        intro x hx
        cases null
        · exact ht.l x (List.mem_of_mem_take hx)
        · simp at hx
      have hwt : Tree.wts (if null then ([] : List Tree) else Xo t.l) ≤ t.wt := by
        have := l_wt t
        have := wts_take t.l XQ
        cases null
        · show Tree.wts (t.l.take XQ) ≤ _; omega
        · simp [Tree.wts]
      have h8 := Ya8 flex null (if null then ([] : List Tree) else Xo t.l).length 4 (by omega) (by omega)
      rw [List.length_append]
      have h9 := things_le (Xr of flex false (YM ver flex sub)) (c + 24) (if null then ([] : List Tree) else Xo t.l) (fun x hx => wVal_le of flex false _ x c (hp x (hmem x hx)))
      have h10 : (c + 24) * Tree.wts (if null then ([] : List Tree) else Xo t.l) ≤ (c + 24) * t.wt := Nat.mul_le_mul_left _ hwt
      omega
    · simp only [h11, if_false]
      by_cases h10 : kind = 10
      · simp only [h10, true_and]
        have h1 := hp t ht
        have h2 : c * t.wt ≤ (c + 24) * t.wt := Nat.mul_le_mul_right _ (by omega)
        split
        · split
          · rw [be_len]; omega
          · rw [List.length_append, be_len]; omega
        · rw [wVal_part]; omega
      · simp only [h10, false_and, if_false]
        have := wVal_le kind flex (t.nul && decide (0 ≤ nul) && decide (nul ≤ ver)) (YM ver flex sub) t c (hp t ht)
        omega
theorem Yh0 (ver : Int) (flex : Bool) : ∀ (fs : List Fld) (i : Nat) (t : Tree), t.ok → (wFs ver flex fs i t).length ≤ Fld.prices fs * t.wt
  | [], _, _, _ => by simp [wFs]
  | f :: fs, i, t, ht => by
    have h1 := Yc5 ver flex f (att t i) (ht.at i)
    have h2 := Yh0 ver flex fs (i + 1) t ht
    have h3 : f.price * (att t i).wt ≤ Yi6 f.tag f.price * t.wt := Nat.mul_le_mul (le_tagged _ _) (att_wt t i)
    simp only [wFs, Fld.prices, List.length_append, Nat.add_mul]
    split
    · omega
    · simp only [List.length_nil]; omega
theorem Yg5 (ver : Int) (flex : Bool) : ∀ (fs : List Fld) (i k : Nat) (t : Tree), t.ok → Jq (wTs ver flex fs i k t) ≤ Fld.prices fs * t.wt
  | [], _, _, _, _ => by simp [wTs, Jq]
  | f :: fs, i, k, t, ht => by
    have h1 := Yc5 ver flex f (att t i) (ht.at i)
    have h2 := Yg5 ver flex fs (i + 1) k t ht
    simp only [wTs, Fld.prices, Yd1, Nat.add_mul]
    split
    · rename_i h
      have h0 : f.price * (att t i).wt ≤ f.price * t.wt := Nat.mul_le_mul_left _ (att_wt t i)
      have h3 := tag_le k (Xk ver flex f (att t i)) (f.price * t.wt) (by omega)
      have h4 := tagged_mul f.tag f.price k t.wt h.1 t.wt_pos
      simp only [Jq, List.map_cons, List.map_nil, List.sum_cons, List.sum_nil] at h2 ⊢; omega
    · have : Jq ([] : List (Nat × List UInt8)) = 0 := rfl
      omega
end
theorem wPart_price (ver : Int) (flex : Bool) (fs : List Fld) (t : Tree) (ht : t.ok) : (YM ver flex fs t).length ≤ JD fs * t.wt := by
  have hx1 := t.wt_pos
  have := part_le ver flex fs t (Fld.prices fs * t.wt) (14 * t.wt) (Yh0 ver flex fs 0 t ht) (fun k => Yg5 ver flex fs 0 k t ht) (others_le fs t ht)
  unfold JD
  rw [Nat.add_mul, Nat.mul_assoc]
  omega
end Go.Proofs.YtmihblfjhoblmaaGreatDoor
