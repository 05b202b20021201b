/- A part of the proof of FnMakeShareAcknowledgeRequestUptoSaid: what its texts prove stands at the head of each. Conditions: those that each theorem names. -/
import Derived.Test.YtgpnpfiafcakfaaGreatPartB
import Derived.Deep.LoopGhost
import Derived.Test.YtgpnpfiafcakfaaGreatPartA
import Derived.Maps.RangeRun
import Derived.Test.YtgpnpfiafcakfaaGreatProg
set_option linter.all false
namespace Go.Proofs.YtgpnpfiafcakfaaGreat
open Go Go.RowKit
section
variable {P : Program} {K : Kr} {N g rb sb : Nat} {ev : Value} {k : Nat} {rows : List (Nat × Nat × Nat)} {zs : List (Nat × List Value)} {S : RS} {Ad : List (Nat × Nat)} {R : List Value} {I : List Int} {it : Wi} {sst st0 st : Option (List UInt8)} {a : Act} {w : World}
end
end Go.Proofs.YtgpnpfiafcakfaaGreat

namespace Go.Proofs.YtgpnpfiafcakfaaGreat
open Go Go.RowKit
theorem rdRow_snoc (body : List Ra) (dfl : List D) : ∀ (n : Nat) (s : List UInt8), rdRow body dfl (n + 1) s = (rdRow body dfl n s).bind fun x => (rdAs body dfl x.2).map fun y => (x.1 ++ [y.1], y.2)
 | 0, s => by
  simp only [rdRow, Option.bind_some]
  cases rdAs body dfl s <;> simp
 | n + 1, s => by
  rw [rdRow]
  cases h : rdAs body dfl s with
  | none => rw [rdRow, h]; rfl
  | some x =>
   simp only [Option.bind_some]
   rw [rdRow_snoc body dfl n x.2, rdRow, h]
   simp only [Option.bind_some]
   cases rdRow body dfl n x.2 with
   | none => rfl
   | some y =>
    simp only [Option.bind_some, Option.map_some]
    cases rdAs body dfl y.2 <;> simp
def ItR (body : List Ra) (dfl : List D) (i : Nat) (s : List UInt8) (dss : List (List D)) (st : Option (List UInt8)) : Prop := match rdRow body dfl i s with
 | some x => st = some x.2 ∧ dss = x.1
 | none => st = none
theorem ItR.step {body : List Ra} {dfl : List Value} {i : Nat} {s : List UInt8} {dss : List (List D)} {st st' : Option (List UInt8)} {ds : List D} (h : ItR body (litsD dfl) i s dss st) (k : OutR body (litsD dfl) st ds st') : ItR body (litsD dfl) (i + 1) s (dss ++ [ds]) st' := by
 unfold ItR at *
 rw [rdRow_snoc]
 have k2 := k.2
 cases hx : rdRow body (litsD dfl) i s with
 | none =>
  rw [hx] at h
  simp only [] at h
  subst h
  exact k2
 | some x =>
  rw [hx] at h
  obtain ⟨rfl, rfl⟩ := h
  simp only [] at k2
  simp only [Option.bind_some]
  cases hy : rdAs body (litsD dfl) x.2 with
  | none => rw [hy] at k2; exact k2
  | some y =>
   rw [hy] at k2
   obtain ⟨rfl, rfl⟩ := k2
   exact ⟨rfl, rfl⟩
section
variable {P : Program} {K : Kr} {N g rb sb : Nat} {ev : Value} {k : Nat} {rows : List (Nat × Nat × Nat)} {zs : List (Nat × List Value)} {S : RS} {Ad : List (Nat × Nat)} {R : List Value} {I : List Int} {it : Wi} {sst st0 st : Option (List UInt8)} {a : Act} {w : World}
theorem denW_wide {s : Wd} {v : Value} (Ad' : List (Nat × Nat)) (R' : List Value) (I' : List Int) (h : denW rb Ad R I s = some v) : denW rb (Ad ++ Ad') (R ++ R') (I ++ I') s = some v := by
 cases s with
 | val v => exact h
 | rdr => exact h
 | at_ k o =>
  simp only [denW, Option.map_eq_some_iff] at h ⊢
  obtain ⟨p, hp, e⟩ := h
  exact ⟨p, get_more hp, e⟩
 | res n => exact get_more h
 | idx m =>
  simp only [denW, Option.map_eq_some_iff] at h ⊢
  obtain ⟨p, hp, e⟩ := h
  exact ⟨p, get_more hp, e⟩
theorem KnW.wide {A : WA} (h : KnW N rb a A Ad R I) (Ad' : List (Nat × Nat)) (R' : List Value) (I' : List Int) : KnW N rb a A (Ad ++ Ad') (R ++ R') (I ++ I') := ⟨h.size, h.defers, fun t s e => denW_wide Ad' R' I' (h.at_ t s e)⟩
theorem KnW.back {a' : Act} {A : WA} {Ad' : List (Nat × Nat)} {R' : List Value} {I' : List Int} (h : KnW N rb a A Ad R I) (h' : KnW N rb a' A (Ad ++ Ad') (R ++ R') (I ++ I')) : KnW N rb a' A Ad R I := by
 refine ⟨h'.size, h'.defers, fun t s e => ?_⟩
 have h1 := h.at_ t s e
 have h2 := h'.at_ t s e
 rw [denW_wide Ad' R' I' h1] at h2
 rw [h1, h2]
end
end Go.Proofs.YtgpnpfiafcakfaaGreat

namespace Go.Proofs.YtgpnpfiafcakfaaGreat
open Go Go.RowKit
section
variable {P : Program} {K : Kr} {N g rb sb : Nat} {ev : Value} {k : Nat} {rows : List (Nat × Nat × Nat)} {zs : List (Nat × List Value)} {S : RS} {Ad : List (Nat × Nat)} {R : List Value} {I : List Int} {it : Wi} {sst st0 st : Option (List UInt8)} {a : Act} {w : World}
end
end Go.Proofs.YtgpnpfiafcakfaaGreat

namespace Go.Proofs.YtgpnpfiafcakfaaGreat
open Go Go.RowKit
section
variable {P : Program} {K : Kr} {N g rb sb : Nat} {ev : Value} {k : Nat} {rows : List (Nat × Nat × Nat)} {zs : List (Nat × List Value)} {S : RS} {Ad : List (Nat × Nat)} {R : List Value} {I : List Int} {it : Wi} {sst st0 st : Option (List UInt8)} {a : Act} {w : World}
end
end Go.Proofs.YtgpnpfiafcakfaaGreat

namespace Go.Proofs.YtgpnpfiafcakfaaGreat
open Go Go.RowKit
theorem Bad.wide {N g rb rs : Nat} {ev : Value} {it it' : Wi} {R R' : List Value} {w w' : World} (f : Fr rb it it' R R' w w') {a2 : Act} {w2 : World} (h : Bad N g rb ev rs it' w' a2 w2) : Bad N g rb ev rs it w a2 w2 := by
 obtain ⟨b1, b2, b3, b4, b5⟩ := h
 exact ⟨b1, b2, f.chg.trans (b3.wide (fun j hj => by rw [f.b, f.lo] at hj; exact hj)), b4, b5⟩
section
variable {P : Program} {K : Kr} {N g rb sb : Nat} {ev : Value}
end
end Go.Proofs.YtgpnpfiafcakfaaGreat

namespace Go.Proofs.YtgpnpfiafcakfaaGreat
open Go Go.RowKit
structure Hd where
 rs : Nat
 x : Nat
 y : Nat
 f : Nat
 u : Nat
 b : Nat
 r : Nat
 rest : Code
structure KrTy (P : Program) (K : Kr) : Prop where
 built : ∀ a n c, P.built K.rty [(0, .slice a n c)] = some #[.slice a n c, .bool false]
 zero : ∀ w : World, (zeroValue K.rty).run P w = .ok (.agg #[.slice none 0 0, .bool false]) w
 size : sizeIs P K.rty 2 = true
section
variable {P : Program} {K : Kr} {g : Nat} {ev : Value} {w : World}
end
end Go.Proofs.YtgpnpfiafcakfaaGreat

namespace Go.Proofs.YtgpnpfiafcakfaaGreat
open Go Go.RowKit
def SrcV (w : World) (sb : Nat) (v : Value) (s : List UInt8) : Prop := (v = .slice none 0 0 ∧ s = []) ∨ ∃ o c, v = .slice (some ⟨sb, o, none⟩) s.length c ∧ s.length ≤ c ∧ CellsAt w sb o (bv s) ∧ sb ≠ 0
theorem SrcV.rdr {w : World} {rb sb : Nat} {v : Value} {s : List UInt8} {e : TypeId} (h : SrcV w sb v s) (hb : Box w rb [v, .bool false] e) (hn : sb ≠ 0 → v ≠ .slice none 0 0) (hl : s.length ≤ srcLim) : Rdr w rb sb (some s) := ⟨v, e, hb, hl, h, hn⟩
theorem SrcV.chg {S : Nat → Prop} {w w' : World} {sb : Nat} {v : Value} {s : List UInt8} (h : SrcV w sb v s) (hc : Chg S w w') (hs : ¬ S sb) : SrcV w' sb v s := by
 rcases h with h | ⟨o, c, e, hle, hcs, hz⟩
 ·exact .inl h
 ·exact .inr ⟨o, c, e, hle, hcs.chg hc hs, hz⟩
theorem Rdr.nn {w : World} {rb sb : Nat} {s : List UInt8} {v x : Value} {e : TypeId} (h : Rdr w rb sb (some s)) (hb : Box w rb [v, x] e) (hz : sb ≠ 0) : v ≠ .slice none 0 0 := by
 obtain ⟨v', e', hb', _, _, hn⟩ := h
 have h1 := hb'.cell0 (i := 0) rfl
 have h2 := hb.cell0 (i := 0) rfl
 rw [h1] at h2
 simp only [Option.some.injEq] at h2
 rw [← h2]; exact hn hz
theorem bv_take (s : List UInt8) (m : Nat) : bv (s.take m) = (bv s).take m := by simp [bv]
theorem bv_drop (s : List UInt8) (m : Nat) : bv (s.drop m) = (bv s).drop m := by simp [bv]
theorem bv_len (s : List UInt8) : (bv s).length = s.length := by simp [bv]
theorem SrcV.drop {w : World} {sb : Nat} {a : Option Addr} {c m : Nat} {s : List UInt8} (h : SrcV w sb (.slice a s.length c) s) (hm : m ≤ s.length) : SrcV w sb (.slice (if c = m then a else a.map (·.add m)) (s.length - m) (c - m)) (s.drop m) := by
 rcases h with ⟨e, rfl⟩ | ⟨o, c', e, hle, hcs, hz⟩
 ·simp only [Value.slice.injEq] at e
  obtain ⟨rfl, _, rfl⟩ := e
  simp only [List.length_nil, Nat.le_zero] at hm
  subst hm
  exact .inl ⟨by simp, rfl⟩
 ·simp only [Value.slice.injEq, true_and] at e
  obtain ⟨rfl, rfl⟩ := e
  have hcs' : CellsAt w sb (o + m) (bv (s.drop m)) := by
   have h1 : bv s = (bv s).take m ++ (bv s).drop m := (List.take_append_drop _ _).symm
   rw [h1] at hcs
   have := hcs.right
   rw [List.length_take, bv_len, Nat.min_eq_left hm, ← bv_drop] at this
   exact this
  by_cases hcm : c = m
  ·subst hcm
   have : s.drop c = [] := List.drop_eq_nil_of_le hle
   right
   refine ⟨o, 0, ?_, by simp [this], ?_, hz⟩
   ·simp only [if_true, Nat.sub_self, List.length_drop]
   ·rw [this]
    obtain ⟨arr, e, fz, h1, h2, h3⟩ := hcs
    exact ⟨arr, e, fz, h1, by simp [bv]; omega, fun i v hv => by simp [bv] at hv⟩
  ·right
   refine ⟨o + m, c - m, ?_, by simp; omega, hcs', hz⟩
   simp [hcm, Addr.add]
theorem SrcV.take {w : World} {sb : Nat} {a : Option Addr} {c m : Nat} {s : List UInt8} (h : SrcV w sb (.slice a s.length c) s) (hm : m ≤ s.length) : SrcV w sb (.slice a m m) (s.take m) := by
 rcases h with ⟨e, rfl⟩ | ⟨o, c', e, hle, hcs, hz⟩
 ·simp only [Value.slice.injEq] at e
  obtain ⟨rfl, _, rfl⟩ := e
  simp only [List.length_nil, Nat.le_zero] at hm
  subst hm
  exact .inl ⟨rfl, rfl⟩
 ·simp only [Value.slice.injEq, true_and] at e
  obtain ⟨rfl, rfl⟩ := e
  right
  have hl : (s.take m).length = m := by simp; omega
  refine ⟨o, m, by rw [hl], by rw [hl]; exact Nat.le_refl _, ?_, hz⟩
  have h1 : bv s = bv (s.take m) ++ (bv s).drop m := by rw [bv_take]; exact (List.take_append_drop _ _).symm
  rw [h1] at hcs
  exact hcs.left
theorem SrcV.cell {w : World} {sb : Nat} {a : Option Addr} {c i : Nat} {s : List UInt8} (h : SrcV w sb (.slice a s.length c) s) (hi : i < s.length) : ∃ o, a = some ⟨sb, o, none⟩ ∧ w.cell? ⟨sb, o + i * 1, none⟩ = some (.int .u8 s[i].toNat) := by
 rcases h with ⟨e, rfl⟩ | ⟨o, c', e, hle, hcs, hz⟩
 ·cases hi
 ·simp only [Value.slice.injEq, true_and] at e
  obtain ⟨rfl, rfl⟩ := e
  refine ⟨o, rfl, ?_⟩
  rw [Nat.mul_one]
  exact hcs.cell (by simp [bv, hi])
theorem SrcV.sq {w : World} {sb lo : Nat} {v : Value} {s : List UInt8} (h : SrcV w sb v s) (hs : sb < w.heap.size) : Rep (Dk sb lo w) w (.sq (s.map byteD)) [v] := by
 simp only [Rep, List.length_map]
 rcases h with ⟨rfl, rfl⟩ | ⟨o, c, rfl, hle, hcs, _⟩
 ·exact ⟨none, 0, rfl, Nat.le_refl _, .inl rfl⟩
 ·exact ⟨_, c, rfl, hle, .inr ⟨sb, o, bv s, rfl, ⟨.inl rfl, hs⟩, hcs, (reps_bytes s _).2 rfl⟩⟩
section
variable {P : Program} {ops : Array Oper} {Q : Exit → Act → World → Prop} {N : Nat} {rest : List Oper} {L : Sl} {w : World} {d : Nat} {ty : TypeId} {pos : String} {aft : Array Edge}
end
end Go.Proofs.YtgpnpfiafcakfaaGreat

namespace Go.Proofs.YtgpnpfiafcakfaaGreat
open Go Go.RowKit
def HoldV (ver kind nul : Int) (t : Tree) (d : D) : Prop :=
  if kind = 9 ∧ ¬ (0 ≤ nul ∧ nul ≤ ver) then d.isAgg = false ∧ shD d = [.sl] ∧ ∃ n, sliceOf d = some (n, t.s.map byteD) else d = valK kind nul t
def HoldS (ver nul : Int) (t : Tree) (Q : List D → Prop) (d : D) : Prop :=
  (0 ≤ nul ∧ t.nul = true ∧ d = .sl true []) ∨ (¬ (0 ≤ nul ∧ t.nul = true) ∧ d.isAgg = false ∧ shD d = [.sl] ∧ ∃ n els, sliceOf d = some (n, els) ∧ (0 ≤ nul → nul ≤ ver → isnOf d = some false) ∧ els.length = t.l.length ∧ Q els)
def HoldU (tg flex : Bool) (t : Tree) (b : List D) : Prop := if tg then (if flex then b = [tagsK t.u] else ∃ d, b = [d] ∧ shD d = [.mp]) else b = []
mutual
def HoldF (ver : Int) (tg flex : Bool) : Fld → Tree → List D → Prop
  | .mk kind _ _ nul _ _ of sub, t, ds =>
    if kind = 11 then ∃ d, ds = [d] ∧ HoldS ver nul t (fun els =>
      (if of = 10 then ∀ i, i < t.l.length → ∃ a b, els[i]? = some (.agg (a ++ b)) ∧ HoldFs ver tg flex sub 0 (att t i) a ∧ HoldU tg flex (att t i) b
       else els = t.l.map (valK of (-1)))) d
    else if kind = 10 then (if 0 ≤ nul then (t.nul = true ∧ ds = [.lit (.pointer none)]) ∨ (t.nul = false ∧ ∃ a b, ds = [.ptr (.agg (a ++ b))] ∧ HoldFs ver tg flex sub 0 t a ∧ HoldU tg flex t b)
      else ∃ a b, ds = a ++ b ∧ HoldFs ver tg flex sub 0 t a ∧ HoldU tg flex t b)
    else ∃ d, ds = [d] ∧ HoldV ver kind nul t d
def HoldFs (ver : Int) (tg flex : Bool) : List Fld → Nat → Tree → List D → Prop
  | [], _, _, ds => ds = []
  | f :: fs, i, t, ds => ∃ a b, ds = a ++ b ∧ shDs a = shF tg f ∧ pos a ∧ (f.has ver = true → HoldF ver tg flex f (att t i) a) ∧ HoldFs ver tg flex fs (i + 1) t b
end
def HoldP (ver : Int) (tg flex : Bool) (fs : List Fld) (t : Tree) (ds : List D) : Prop := ∃ a b, ds = a ++ b ∧ HoldFs ver tg flex fs 0 t a ∧ HoldU tg flex t b
theorem HoldU.sh {tg flex : Bool} {t : Tree} {b : List D} (h : HoldU tg flex t b) : shDs b = (if tg then [.mp] else []) ∧ pos b := by
  unfold HoldU at h
  cases tg with
  | false => simp at h; subst h; exact ⟨rfl, fun d hd => by cases hd⟩
  | true =>
    simp only [if_true] at h ⊢
    cases flex with
    | true => simp at h; subst h; exact ⟨by simp [shDs, tagsK, shD], fun d hd => by simp at hd; subst hd; simp [tagsK, D.width]⟩
    | false =>
      simp at h
      obtain ⟨d, rfl, hd⟩ := h
      refine ⟨by simp [shDs, hd], fun x hx => ?_⟩
      simp at hx; subst hx
      rw [← sh_width, hd]; simp
theorem HoldFs.sh {ver : Int} {tg flex : Bool} : ∀ {fs : List Fld} {i : Nat} {t : Tree} {ds : List D}, HoldFs ver tg flex fs i t ds → shDs ds = shFs tg fs ∧ pos ds
  | [], i, t, ds, h => by simp only [HoldFs] at h; subst h; exact ⟨rfl, fun d hd => by cases hd⟩
  | f :: fs, i, t, ds, h => by
    simp only [HoldFs] at h
    obtain ⟨a, b, rfl, h1, h2, _, h4⟩ := h
    obtain ⟨h5, h6⟩ := HoldFs.sh h4
    exact ⟨by simp only [shDs_append, shFs, h1, h5], pos_append h2 h6⟩
theorem HoldP.sh {ver : Int} {tg flex : Bool} {fs : List Fld} {t : Tree} {ds : List D} (h : HoldP ver tg flex fs t ds) : shDs ds = shP tg fs ∧ pos ds := by
  obtain ⟨a, b, rfl, h1, h2⟩ := h
  exact ⟨by rw [shDs_append, h1.sh.1, h2.sh.1]; rfl, pos_append h1.sh.2 h2.sh.2⟩
section
variable {E : List (List D)} {k off : Nat} {pre post : List D} {ver : Int} {flex : Bool}
end
end Go.Proofs.YtgpnpfiafcakfaaGreat

namespace Go.Proofs.YtgpnpfiafcakfaaGreat
open Go Go.RowKit
def rpV (kind nul ver : Int) (flex : Bool) : Rp :=
 if kind = 0 then .bool else if kind = 1 then .i8 else if kind = 2 then .i16 else if kind = 3 then .i32 else if kind = 5 then .u16 else if kind = 7 then .uuid
 else if kind = 8 then (if 0 ≤ nul then (if nul ≤ ver then (if flex then .cnstr else .nstr) else (if flex then .pcstr else .pstr)) else (if flex then .cstr else .str))
 else if kind = 9 then (if 0 ≤ nul ∧ nul ≤ ver then (if flex then .cnbytes else .nbytes) else (if flex then .cbytes else .bytes))
 else .i64
def Imp (a b : List D) : Prop := ∀ (ok : Nat → Prop) (w : World) (cs : List Value), Reps ok w a cs → Reps ok w b cs
theorem Imp.refl (a : List D) : Imp a a := fun _ _ _ h => h
theorem Imp.app {a b c d : List D} (h : Imp a b) (k : Imp c d) : Imp (a ++ c) (b ++ d) := by
 intro ok w cs hr
 obtain ⟨c1, c2, rfl, h1, h2⟩ := (Reps.app _ _ _).1 hr
 exact (Reps.app _ _ _).2 ⟨c1, c2, rfl, h ok w c1 h1, k ok w c2 h2⟩
theorem Imp.one {a b : D} (h : ∀ (ok : Nat → Prop) (w : World) (cs : List Value), Rep ok w a cs → Rep ok w b cs) : Imp [a] [b] := by
 intro ok w cs hr
 simp only [Reps] at hr ⊢
 obtain ⟨c1, c2, e, h1, h2⟩ := hr
 exact ⟨c1, c2, e, h ok w c1 h1, h2⟩
theorem rep_one {ok : Nat → Prop} {w : World} {d : D} {cs : List Value} : Reps ok w [d] cs ↔ Rep ok w d cs := by
 simp only [Reps]
 constructor
 ·rintro ⟨c1, c2, rfl, h, rfl⟩; simpa using h
 ·intro h; exact ⟨cs, [], by simp, h, rfl⟩
end Go.Proofs.YtgpnpfiafcakfaaGreat

namespace Go.Proofs.YtgpnpfiafcakfaaGreat
open Go Go.RowKit
def Rising (u : List (Nat × List UInt8)) : Prop := u.Pairwise fun a b => a.1 < b.1
theorem putTag_rising (k : Nat) (v : List UInt8) : ∀ (u : List (Nat × List UInt8)), Rising u → Rising (putTag k v u) ∧ ∀ n, (∀ kv ∈ u, n < kv.1) → n < k → ∀ kv ∈ putTag k v u, n < kv.1
 | [], _ => ⟨by simp [putTag, Rising], fun n _ hk kv h => by simp [putTag] at h; subst h; exact hk⟩
 | x :: u, h => by
  have hx := List.pairwise_cons.1 h
  obtain ⟨i1, i2⟩ := putTag_rising k v u hx.2
  simp only [putTag]
  split
  ·rename_i hlt
   refine ⟨List.pairwise_cons.2 ⟨fun y hy => i2 x.1 (fun z hz => hx.1 z hz) hlt y hy, i1⟩, fun n hn hk kv hkv => ?_⟩
   rcases List.mem_cons.1 hkv with rfl | hm
   ·exact hn _ (by simp)
   ·exact i2 n (fun z hz => hn z (by simp [hz])) hk kv hm
  ·split
   ·exact ⟨h, fun n hn _ => hn⟩
   ·rename_i h1 h2
    refine ⟨List.pairwise_cons.2 ⟨fun y hy => ?_, h⟩, fun n hn hk kv hkv => ?_⟩
    ·rcases List.mem_cons.1 hy with rfl | hm
     ·show k < _; omega
     ·have := hx.1 y hm; show k < _; omega
    ·rcases List.mem_cons.1 hkv with rfl | hm
     ·exact hk
     ·exact hn kv hm
theorem unknown_rising (fs : List Fld) (u : List (Nat × List UInt8)) : Rising (unknown fs u) := by
 unfold unknown
 have : ∀ (l : List (Nat × List UInt8)) (out : List (Nat × List UInt8)), Rising out → Rising (l.foldl (fun out kv => if kv.1 < known fs then out else putTag kv.1 kv.2 out) out) := by
  intro l
  induction l with
  | nil => intro out h; exact h
  | cons x l ih =>
   intro out h
   simp only [List.foldl_cons]
   split
   ·exact ih out h
   ·exact ih _ (putTag_rising x.1 x.2 out h).1
 exact this _ [] (by simp [Rising])
theorem setTag_end (k : Nat) (v : List UInt8) : ∀ (u : List (Nat × List UInt8)), (∀ kv ∈ u, kv.1 < k) → setTag k v u = u ++ [(k, v)]
 | [], _ => rfl
 | x :: u, h => by
  have := h x (by simp)
  simp only [setTag, if_pos this, setTag_end k v u (fun y hy => h y (by simp [hy])), List.cons_append]
def rpN : Rp → Nat
 | .bool => 0 | .i8 => 1 | .i16 => 2 | .i32 => 3 | .i64 => 4 | .u16 => 5 | .uuid => 6 | .str => 7 | .cstr => 8 | .nstr => 9 | .cnstr => 10 | .bytes => 11 | .cbytes => 12 | .nbytes => 13 | .cnbytes => 14 | .pstr => 15 | .pcstr => 16
def rpEq (a b : Rp) : Bool := Nat.beq (rpN a) (rpN b)
def ne1 (ver : Int) (fs : List Fld) : Bool := fs.any fun f => f.has ver && decide (f.tag < 0) && !decide (f.kind = 10)
def endR (flex : Bool) (off : Nat) (ra : List Ra) : Option (List Ra) := if flex then (match ra with
 | .tags o :: r => bif Nat.beq o off then some r else none
 | _ => none) else some ra
def isEnd (flex : Bool) (off : Nat) (ra : List Ra) : Bool := match endR flex off ra with
 | some [] => true
 | _ => false
def endsO (flex : Bool) (off : Nat) : Option (List Ra) → Bool
 | some r => isEnd flex off r
 | none => false
def isPrim (p : Rp) : List Ra → Bool
 | [.prim q 0] => rpEq q p
 | _ => false
mutual
def mF (ver : Int) (tg flex : Bool) (off : Nat) : Fld → List Ra → Option (List Ra)
 | .mk kind _ _ nul _ _ of sub, ra =>
  if kind = 11 then (match ra with
   | .row c nb o st dfl body :: r =>
    bif (c == flex) && (nb == decide (0 ≤ nul ∧ nul ≤ ver)) && Nat.beq o off && (st == decide (of = 10)) && decide (shDs (litsD dfl) = shE tg of sub) &&
     (if of = 10 then (flex || ne1 ver sub) && endsO flex (shFs tg sub).length (mFs ver tg flex 0 sub body) else isPrim (rpV of (-1) ver flex) body) then some r else none
   | _ => none)
  else if kind = 10 then (if 0 ≤ nul then none else match mFs ver tg flex off sub ra with | some r => endR flex (off + (shFs tg sub).length) r | none => none)
  else (match ra with
   | .prim p o :: r => bif rpEq p (rpV kind nul ver flex) && Nat.beq o off then some r else none
   | _ => none)
def mFs (ver : Int) (tg flex : Bool) (off : Nat) : List Fld → List Ra → Option (List Ra)
 | [], ra => some ra
 | f :: fs, ra => match (if f.has ver then mF ver tg flex off f ra else some ra) with
  | some r => mFs ver tg flex (off + (shF tg f).length) fs r
  | none => none
end
end Go.Proofs.YtgpnpfiafcakfaaGreat

namespace Go.Proofs.YtgpnpfiafcakfaaGreat
open Go Go.RowKit
theorem repKs_iff {ok : Nat → Prop} {w : World} {es : Array MapEntry} : ∀ (kvs : List (Nat × D)), RepKs ok w es kvs ↔ ∀ kv ∈ kvs, ∃ e ∈ es, e.key = .int .u32 kv.1 ∧ Rep ok w kv.2 [e.val]
 | [] => by simp [RepKs]
 | kv :: kvs => by simp only [RepKs, repKs_iff kvs, List.mem_cons, forall_eq_or_imp]
theorem mem_setTag {k : Nat} {v : List UInt8} : ∀ {u : List (Nat × List UInt8)}, Rising u → ∀ {kv : Nat × List UInt8}, kv ∈ setTag k v u ↔ kv = (k, v) ∨ (kv ∈ u ∧ kv.1 ≠ k)
 | [], _, kv => by simp [setTag]
 | x :: u, h, kv => by
  have hx := List.pairwise_cons.1 h
  simp only [setTag]
  split
  ·rename_i hlt
   simp only [List.mem_cons, mem_setTag hx.2]
   constructor
   ·rintro (rfl | rfl | ⟨h1, h2⟩)
    ·exact .inr ⟨.inl rfl, by omega⟩
    ·exact .inl rfl
    ·exact .inr ⟨.inr h1, h2⟩
   ·rintro (rfl | ⟨rfl | h1, h2⟩)
    ·exact .inr (.inl rfl)
    ·exact .inl rfl
    ·exact .inr (.inr ⟨h1, h2⟩)
  ·split
   ·rename_i h1 h2
    simp only [List.mem_cons]
    constructor
    ·rintro (rfl | h3)
     ·exact .inl rfl
     ·exact .inr ⟨.inr h3, by have := hx.1 kv h3; omega⟩
    ·rintro (rfl | ⟨rfl | h3, h4⟩)
     ·exact .inl rfl
     ·exact absurd h2 h4
     ·exact .inr h3
   ·rename_i h1 h2
    simp only [List.mem_cons]
    constructor
    ·rintro (rfl | rfl | h3)
     ·exact .inl rfl
     ·exact .inr ⟨.inl rfl, h2⟩
     ·exact .inr ⟨.inr h3, by have := hx.1 kv h3; omega⟩
    ·rintro (rfl | ⟨rfl | h3, _⟩)
     ·exact .inl rfl
     ·exact .inr (.inl rfl)
     ·exact .inr (.inr h3)
theorem setTag_rising {k : Nat} {v : List UInt8} : ∀ {u : List (Nat × List UInt8)}, Rising u → Rising (setTag k v u)
 | [], _ => by simp [setTag, Rising]
 | x :: u, h => by
  have hx := List.pairwise_cons.1 h
  simp only [setTag]
  split
  ·rename_i hlt
   refine List.pairwise_cons.2 ⟨fun y hy => ?_, setTag_rising hx.2⟩
   rcases (mem_setTag hx.2).1 hy with rfl | ⟨h1, _⟩
   ·exact hlt
   ·exact hx.1 y h1
  ·split
   ·rename_i h1 h2
    exact List.pairwise_cons.2 ⟨fun y hy => by have := hx.1 y hy; show k < _; omega, hx.2⟩
   ·rename_i h1 h2
    refine List.pairwise_cons.2 ⟨fun y hy => ?_, h⟩
    rcases List.mem_cons.1 hy with rfl | hm
    ·show k < _; omega
    ·have := hx.1 y hm; show k < _; omega
theorem setTag_length {k : Nat} {v : List UInt8} : ∀ {u : List (Nat × List UInt8)}, Rising u → (setTag k v u).length = if k ∈ u.map (·.1) then u.length else u.length + 1
 | [], _ => by simp [setTag]
 | x :: u, h => by
  have hx := List.pairwise_cons.1 h
  have ih := setTag_length (k := k) (v := v) hx.2
  simp only [setTag]
  split
  ·rename_i hlt
   simp only [List.length_cons, ih, List.map_cons, List.mem_cons]
   have : (k = x.1 ∨ k ∈ u.map (·.1)) ↔ k ∈ u.map (·.1) := by
    constructor
    ·rintro (h | h)
     ·omega
     ·exact h
    ·exact .inr
   simp only [this]
   split <;> rfl
  ·split
   ·rename_i h1 h2
    rw [if_pos (by simp [h2])]; simp
   ·rename_i h1 h2
    rw [if_neg ?_]
    ·simp
    ·simp only [List.map_cons, List.mem_cons, List.mem_map, not_or, not_exists, not_and]
     refine ⟨fun e => h2 e.symm, fun y hy e => ?_⟩
     have := hx.1 y hy
     omega
section
variable {P : Program} {w : World} {mty kt et : TypeId} {r clock : Nat} {es : Array MapEntry} {ks : List Nat}
theorem run_mapUpd (hm : P.underlying mty = some (.map kt et)) (hd : P.underlying kt = some (.int .u32)) (hb : w.heap[r]? = some (.map es clock)) (hmap : Mapped es clock ks) (hin : ∀ k ∈ ks, ∃ e ∈ es, e.key = .int .u32 k) (key : Nat) (val : Value) :
  ∃ w' es' clock', (Instr.mapUpdate mty (.map (some r)) (.int .u32 key) val).run P w = .ok () w' ∧ w'.heap[r]? = some (.map es' clock') ∧ Chg (· = r) w w' ∧ w'.heap.size = w.heap.size ∧ MapKept.Stamped es' clock' ∧
   ((key ∉ ks ∧ es' = es.push { key := .int .u32 key, val := val, born := clock }) ∨ (key ∈ ks ∧ ∃ j e, es[j]? = some e ∧ e.key = .int .u32 key ∧ es' = es.modify j fun e => { e with key := .int .u32 key, val := val })) := by
 obtain ⟨h1, h2, h3, _⟩ := hmap
 have hk : MapKept.IsKey (.int .u32) (.int .u32 (key : Int)) := rfl
 have hks : ∀ x ∈ es.toList, MapKept.IsKey (.int .u32) x.key := fun x hx => by
  obtain ⟨k, _, e⟩ := h3 x hx
  rw [e]; rfl
 have chg : ∀ o, Chg (· = r) w { w with heap := w.heap.setIfInBounds r o } := fun o => ⟨rfl, rfl, rfl, by simp, fun k _ hne => (MapKept.heap_set hb).2 k hne⟩
 rcases MapKept.findNow_spec hk es.toList 0 hks with ⟨g1, g2⟩ | ⟨j, e, g1, g2, g3⟩
 ·refine ⟨_, es.push { key := .int .u32 key, val := val, born := clock }, clock + 1, ?_, (MapKept.heap_set hb).1, chg _, by simp, MapKept.stamped_push h2 g2, .inl ⟨fun hin' => ?_, rfl⟩⟩
  ·simp [Instr.mapUpdate, run_underlying hm, MapKept.run_getObj_map hb, MapKept.run_checkKey hd hk, MapKept.run_findKey hd g1, MapKept.run_setObj_map _ hb, Result.andThen]
  ·obtain ⟨x, hx, e⟩ := hin key hin'
   exact g2 x (Array.mem_toList_iff.2 hx) e
 ·have hj : es[j]? = some e := by simpa using g2
  refine ⟨_, es.modify j fun e => { e with key := .int .u32 key, val := val }, clock, ?_, (MapKept.heap_set hb).1, chg _, by simp, ?_, .inr ⟨?_, j, e, hj, g3, rfl⟩⟩
  ·simp [Instr.mapUpdate, run_underlying hm, MapKept.run_getObj_map hb, MapKept.run_checkKey hd hk, MapKept.run_findKey hd g1, hj, g3, MapKept.run_keyThatStays hk, MapKept.run_setObj_map _ hb, Result.andThen]
  ·exact MapKept.stamped_modify h2 _ _ (fun _ _ => rfl) (fun e' _ he' => by rw [hj] at he'; cases he'; exact g3.symm)
  ·obtain ⟨k, hk', e'⟩ := h3 e (Array.mem_toList_iff.2 (Array.mem_of_getElem? hj))
   rw [g3] at e'
   simp only [Value.int.injEq, true_and] at e'
   have : key = k := by omega
   rw [this]; exact hk'
structure TagMap (w : World) (sb r : Nat) (u : List (Nat × List UInt8)) : Prop where
 at_ : ∃ es clock, w.heap[r]? = some (.map es clock) ∧ Mapped es clock (u.map (·.1)) ∧ RepKs (fun b => b = sb) w es (u.map fun kv => (kv.1, bytesD kv.2))
 up : Rising u
theorem TagMap.keep {w w' : World} {S : Nat → Prop} {sb r : Nat} {u : List (Nat × List UInt8)} (h : TagMap w sb r u) (hc : Chg S w w') (hr : ¬ S r) (hs : ¬ S sb) (hsb : sb < w.heap.size) : TagMap w' sb r u := by
 obtain ⟨⟨es, clock, hb, hm, hk⟩, hu⟩ := h
 have hlt : r < w.heap.size := (Array.getElem?_eq_some_iff.1 hb).1
 exact ⟨⟨es, clock, (hc.block r hlt hr).trans hb, hm, RepKs.mono (fun b hb => ⟨hb, by subst hb; exact hc.block b hsb hs⟩) es _ hk⟩, hu⟩
theorem src_rep {w : World} {sb : Nat} {v : Value} {s : List UInt8} (h : SrcV w sb v s) : Rep (fun b => b = sb) w (bytesD s) [v] := by
 simp only [bytesD, Rep, List.length_map]
 rcases h with ⟨rfl, rfl⟩ | ⟨o, c, rfl, hle, hcs, _⟩
 ·exact ⟨none, 0, rfl, Nat.le_refl _, .inl rfl⟩
 ·exact ⟨_, c, rfl, hle, .inr ⟨sb, o, bv s, rfl, rfl, hcs, (reps_bytes s _).2 rfl⟩⟩
theorem run_tagSet (hm : P.underlying mty = some (.map kt et)) (hd : P.underlying kt = some (.int .u32)) {sb : Nat} {u : List (Nat × List UInt8)} (h : TagMap w sb r u) (hne : r ≠ sb) (hsb : sb < w.heap.size) (key : Nat) {val : Value} {s : List UInt8} (hv : SrcV w sb val s) :
  ∃ w', (Instr.mapUpdate mty (.map (some r)) (.int .u32 key) val).run P w = .ok () w' ∧ Chg (· = r) w w' ∧ w'.heap.size = w.heap.size ∧ TagMap w' sb r (setTag key s u) := by
 obtain ⟨⟨es, clock, hb, hmap, hk⟩, hu⟩ := h
 rw [repKs_iff] at hk
 have hk' : ∀ kv ∈ u, ∃ e ∈ es, e.key = .int .u32 kv.1 ∧ Rep (fun b => b = sb) w (bytesD kv.2) [e.val] := fun kv hkv => hk (kv.1, bytesD kv.2) (List.mem_map.2 ⟨kv, hkv, rfl⟩)
 obtain ⟨w', es', clock', hrun, hb', hc, hsz, hst, hcase⟩ := run_mapUpd hm hd hb hmap (fun k hk0 => by
  obtain ⟨kv, hkv, rfl⟩ := List.mem_map.1 hk0
  obtain ⟨e, he, h1, _⟩ := hk' kv hkv
  exact ⟨e, he, h1⟩) key val
 have keep : ∀ {d : D} {cs : List Value}, Rep (fun b => b = sb) w d cs → Rep (fun b => b = sb) w' d cs := fun hr => Rep.mono (fun b hb => ⟨hb, by subst hb; exact hc.block b hsb (fun e => hne e.symm)⟩) _ _ hr
 have hnew : Rep (fun b => b = sb) w' (bytesD s) [val] := keep (src_rep hv)
 have hlen := setTag_length (k := key) (v := s) hu
 refine ⟨w', hrun, hc, hsz, ⟨⟨es', clock', hb', ⟨?_, hst, ?_, List.pairwise_map.2 (setTag_rising hu)⟩, ?_⟩, setTag_rising hu⟩⟩
 ·rw [List.length_map, hlen]
  rcases hcase with ⟨hni, rfl⟩ | ⟨hin, j, e, _, _, rfl⟩
  ·rw [if_neg hni, Array.size_push, hmap.1, List.length_map]
  ·rw [if_pos hin, Array.size_modify, hmap.1, List.length_map]
 ·intro e he
  rcases hcase with ⟨hni, rfl⟩ | ⟨hin, j, e0, hj, hj2, rfl⟩
  ·simp only [Array.toList_push, List.mem_append, List.mem_singleton] at he
   rcases he with he | rfl
   ·obtain ⟨k, hk0, e1⟩ := hmap.2.2.1 e he
    obtain ⟨kv, hkv, rfl⟩ := List.mem_map.1 hk0
    refine ⟨kv.1, List.mem_map.2 ⟨kv, (mem_setTag hu).2 (.inr ⟨hkv, fun e2 => hni (by rw [← e2]; exact hk0)⟩), rfl⟩, e1⟩
   ·exact ⟨key, List.mem_map.2 ⟨(key, s), (mem_setTag hu).2 (.inl rfl), rfl⟩, rfl⟩
  ·have hkeys := MapKept.modify_keys (es := es) j (fun e => { e with key := .int .u32 key, val := val }) (fun e' he' => by rw [hj] at he'; cases he'; exact hj2.symm)
   have : e.key ∈ (es.modify j fun e => { e with key := .int .u32 key, val := val }).toList.map (·.key) := List.mem_map.2 ⟨e, he, rfl⟩
   rw [hkeys] at this
   obtain ⟨y, hy, e1⟩ := List.mem_map.1 this
   obtain ⟨k, hk0, e2⟩ := hmap.2.2.1 y hy
   obtain ⟨kv, hkv, rfl⟩ := List.mem_map.1 hk0
   by_cases hkk : kv.1 = key
   ·exact ⟨key, List.mem_map.2 ⟨(key, s), (mem_setTag hu).2 (.inl rfl), rfl⟩, by rw [← e1, e2, hkk]⟩
   ·exact ⟨kv.1, List.mem_map.2 ⟨kv, (mem_setTag hu).2 (.inr ⟨hkv, hkk⟩), rfl⟩, by rw [← e1, e2]⟩
 ·rw [repKs_iff]
  intro kvd hkvd
  obtain ⟨kv, hkv, rfl⟩ := List.mem_map.1 hkvd
  rcases (mem_setTag hu).1 hkv with rfl | ⟨hold, hkne⟩
  ·rcases hcase with ⟨hni, rfl⟩ | ⟨hin, j, e0, hj, hj2, rfl⟩
   ·exact ⟨_, Array.mem_push_self, rfl, hnew⟩
   ·refine ⟨{ e0 with key := .int .u32 key, val := val }, ?_, rfl, hnew⟩
    have hlt := (Array.getElem?_eq_some_iff.1 hj).1
    refine Array.mem_of_getElem? (i := j) ?_
    rw [Array.getElem?_modify, if_pos rfl, hj]; rfl
  ·obtain ⟨e, he, h1, h2⟩ := hk' kv hold
   rcases hcase with ⟨hni, rfl⟩ | ⟨hin, j, e0, hj, hj2, rfl⟩
   ·exact ⟨e, Array.mem_push_of_mem _ he, h1, keep h2⟩
   ·obtain ⟨i, hi⟩ := Array.mem_iff_getElem?.1 he
    have hij : j ≠ i := by
     rintro rfl
     rw [hj] at hi
     simp only [Option.some.injEq] at hi
     subst hi
     rw [hj2] at h1
     simp only [Value.int.injEq, true_and] at h1
     exact hkne (by omega)
    refine ⟨e, Array.mem_of_getElem? (i := i) ?_, h1, keep h2⟩
    rw [Array.getElem?_modify, if_neg hij]; exact hi
theorem tagMap_new (w : World) (sb : Nat) : TagMap (w.alloc (.map #[] 0)) sb w.heap.size [] := ⟨⟨#[], 0, heap_alloc_new w _, ⟨rfl, MapKept.stamped_empty 0, by simp, by simp⟩, by simp [RepKs]⟩, by simp [Rising]⟩
theorem TagMap.rep {w : World} {sb r lo : Nat} {u : List (Nat × List UInt8)} (h : TagMap w sb r u) (hr : lo ≤ r) (hsb : sb < w.heap.size) : Rep (Dk sb lo w) w (tagsK u) [.map (some r)] := by
 obtain ⟨⟨es, clock, hb, hm, hk⟩, hu⟩ := h
 have hlt : r < w.heap.size := (Array.getElem?_eq_some_iff.1 hb).1
 simp only [tagsK, Rep]
 refine .inr ⟨r, es, clock, rfl, ⟨.inr hr, hlt⟩, hb, ?_, RepKs.mono (fun b hb => ⟨by subst hb; exact ⟨.inl rfl, hsb⟩, rfl⟩) es _ hk⟩
 rw [List.map_map]
 exact hm
end
end Go.Proofs.YtgpnpfiafcakfaaGreat

namespace Go.Proofs.YtgpnpfiafcakfaaGreat
open Go Go.RowKit
section
variable {P : Program} {ops : Array Oper} {Q : Exit → Act → World → Prop} {N : Nat} {rest : List Oper} {L : Sl} {w : World} {d : Nat} {ty : TypeId} {pos : String} {aft : Array Edge}
theorem wl_callV {x : Operand} {f : FuncId} {bs vs : List Value} {args : List Operand} {ats : Array TypeId} (hx : ev L x = some (.func (.func f) #[] bs.toArray)) (ha : evs L args = some vs) (hf : isFn P f = true) (hd : Nat.blt d N = true)
  (hc : Calls P f (vs ++ bs).toArray w fun e w' => ∃ v, e = .returned v ∧ WL rest P ops Q N ((d, v) :: L) w') :
  WL (⟨some d, .call ⟨.value x, args.toArray, ats⟩, ty, pos, aft, none⟩ :: rest) P ops Q N L w := by
 intro a k
 refine wpList_plain rfl (fun K hK => ?_)
 unfold Oper.wp
 have hargs : args.toArray.map a.eval = vs.toArray := by rw [List.map_toArray, k.evals ha]
 have hr : (execOp a.eval ⟨some d, .call ⟨.value x, args.toArray, ats⟩, ty, pos, aft, none⟩).run P w = .ok (.enter f (vs ++ bs).toArray) w := by
  unfold isFn at hf
  cases hfn : P.funcs[f]? with
  | none => simp [hfn] at hf
  | some fn =>
   simp [hfn] at hf
   have h2 : fn.body ≠ none := by intro e; simp [e] at hf
   have h3 := hf.1
   simp only [execOp, resolve, Deferred.ofValue, k.eval hx, hargs, Sem.run_bind, Sem.run_pure, Result.andThen_ok, invoke, callFunc, run_program, hfn]
   simp [h3, h2]
 rw [hr]
 refine hc.mono (fun e w' he => ?_)
 obtain ⟨v, rfl, hv⟩ := he
 exact hK _ _ (hv _ (k.put v hd))
theorem wl_makeFunc {f : FuncId} {caps : List Operand} {vs : List Value} (ha : evs L caps = some vs) (hd : Nat.blt d N = true) (h : WL rest P ops Q N ((d, .func (.func f) #[] vs.toArray) :: L) w) :
  WL (⟨some d, .makeFunc (.func f) #[] caps.toArray, ty, pos, aft, none⟩ :: rest) P ops Q N L w := by
 intro a k
 refine st_of (o := ⟨some d, .makeFunc (.func f) #[] caps.toArray, ty, pos, aft, none⟩) (v := .func (.func f) #[] vs.toArray) (w' := w) rfl ?_ (h _ (k.put _ hd))
 have hargs : caps.toArray.map a.eval = vs.toArray := by rw [List.map_toArray, k.evals ha]
 simp [execOp, Instr.makeFunc, hargs]
theorem wl_makeIface {x : Operand} {t e : TypeId} {v : Value} (hx : ev L x = some v) (hu : P.underlying t = some (.slice e)) (hd : Nat.blt d N = true) (h : WL rest P ops Q N ((d, .iface t v) :: L) w) :
  WL (⟨some d, .makeInterface t x, ty, pos, aft, none⟩ :: rest) P ops Q N L w := by
 intro a k
 refine st_of (o := ⟨some d, .makeInterface t x, ty, pos, aft, none⟩) (v := .iface t v) (w' := w) rfl ?_ (h _ (k.put _ hd))
 simp [execOp, Instr.makeInterface, run_underlying hu, k.eval hx]
theorem wl_extract {x : Operand} {i : Nat} {vs : Array Value} {v : Value} (hx : ev L x = some (.tuple vs)) (hv : vs[i]? = some v) (hd : Nat.blt d N = true) (h : WL rest P ops Q N ((d, v) :: L) w) :
  WL (⟨some d, .extract x i, ty, pos, aft, none⟩ :: rest) P ops Q N L w := by
 intro a k
 refine st_of (o := ⟨some d, .extract x i, ty, pos, aft, none⟩) (v := v) (w' := w) rfl ?_ (h _ (k.put _ hd))
 simp [execOp, Instr.extract, k.eval hx, hv]
theorem wl_range {x : Operand} {t kt et bm clock : Nat} {es : Array MapEntry} (hx : ev L x = some (.map (some bm))) (hu : P.underlying t = some (.map kt et)) (hb : w.heap[bm]? = some (.map es clock)) (hd : Nat.blt d N = true)
  (h : WL rest P ops Q N ((d, .pointer (some ⟨w.heap.size, 0, none⟩)) :: L) (w.alloc (.mapIter (some bm) clock #[] clock))) : WL (⟨some d, .range t x, ty, pos, aft, none⟩ :: rest) P ops Q N L w := by
 intro a k
 refine st_of (o := ⟨some d, .range t x, ty, pos, aft, none⟩) (v := .pointer (some ⟨w.heap.size, 0, none⟩)) (w' := w.alloc (.mapIter (some bm) clock #[] clock)) rfl ?_ (h _ (k.put _ hd))
 simp [execOp, k.eval hx, run_range_map w t kt et bm es clock hu hb]
theorem wl_next {x : Operand} {r bm since c0 clock : Nat} {seen : Array Nat} {es : Array MapEntry} (hx : ev L x = some (.pointer (some ⟨r, 0, none⟩))) (hr : w.heap[r]? = some (.mapIter (some bm) since seen c0)) (hb : w.heap[bm]? = some (.map es clock)) (hold : ∀ x ∈ es.toList, x.born < since) (hsc : since ≤ c0) (hd : Nat.blt d N = true)
  (h0 : (leftOf es seen).size = 0 → WL rest P ops Q N ((d, .tuple #[.bool false]) :: L) w)
  (h1 : ∀ e ∈ (leftOf es seen).toList, ∀ w', w'.heap[r]? = some (.mapIter (some bm) since (seen.push e.born) clock) → Chg (· = r) w w' → w'.heap.size = w.heap.size → WL rest P ops Q N ((d, .tuple #[.bool true, e.key, e.val]) :: L) w') :
  WL (⟨some d, .next x false, ty, pos, aft, none⟩ :: rest) P ops Q N L w := by
 intro a k
 have hlt : r < w.heap.size := (Array.getElem?_eq_some_iff.1 hr).1
 rcases run_next_at (P := P) w ty r bm since c0 seen es clock hr hb hold hsc with ⟨hz, hrun⟩ | ⟨e, he, w1, hw1, hrun⟩
 ·refine st_of (o := ⟨some d, .next x false, ty, pos, aft, none⟩) (v := .tuple #[.bool false]) (w' := w) rfl ?_ (h0 hz _ (k.put _ hd))
  simp [execOp, k.eval hx, hrun]
 ·refine st_of (o := ⟨some d, .next x false, ty, pos, aft, none⟩) (v := .tuple #[.bool true, e.key, e.val]) (w' := Go.ChangeMaps.setBlock w1 r (.mapIter (some bm) since (seen.push e.born) clock)) rfl ?_ (h1 e he _ ?_ ?_ ?_ _ (k.put _ hd))
  ·simp [execOp, k.eval hx, hrun]
  ·rcases hw1 with rfl | rfl <;> simp [Go.ChangeMaps.setBlock, hlt]
  ·rcases hw1 with rfl | rfl <;> exact ⟨rfl, rfl, rfl, by simp [Go.ChangeMaps.setBlock], fun j _ hn => by
    have : r ≠ j := fun e => hn e.symm
    simp [Go.ChangeMaps.setBlock, this] <;> rfl⟩
  ·rcases hw1 with rfl | rfl <;> simp [Go.ChangeMaps.setBlock]
theorem wl_entry {x : Operand} {r bm since clock : Nat} {seen : Array Nat} {es : Array MapEntry} {e : MapEntry} (hx : ev L x = some (.pointer (some ⟨r, 0, none⟩))) (hr : w.heap[r]? = some (.mapIter (some bm) since (seen.push e.born) clock)) (hb : w.heap[bm]? = some (.map es clock)) (he : e ∈ es.toList) (hn : (es.toList.map (·.born)).Nodup) (hd : Nat.blt d N = true)
  (h : WL rest P ops Q N ((d, .tuple #[e.key, e.val]) :: L) w) : WL (⟨some d, .entry x, ty, pos, aft, none⟩ :: rest) P ops Q N L w := by
 intro a k
 refine st_of (o := ⟨some d, .entry x, ty, pos, aft, none⟩) (v := .tuple #[e.key, e.val]) (w' := w) rfl ?_ (h _ (k.put _ hd))
 simp [execOp, k.eval hx, run_entry_at w r bm since seen es clock e hr hb he hn]
theorem wl_makeRow {t e sz B n : Nat} {kl kc : IntKind} {x : Operand} (hT : rowTy P t e sz = true) (hx : ev L x = some (.int kc (n : Int))) (hn : n ≤ many) (hd : Nat.blt d N = true) (hB : B ≤ w.heap.size)
  (h : ∀ w', w'.ownsRow B e sz (.slice (some ⟨w.heap.size, 0, none⟩) 0 n) 0 [] → w.grownBy w' none → w'.heap.size = w.heap.size + 1 → WL rest P ops Q N ((d, .slice (some ⟨w.heap.size, 0, none⟩) 0 n) :: L) w') :
  WL (⟨some d, .makeSlice t (.const (.int kl 0)) x, ty, pos, aft, none⟩ :: rest) P ops Q N L w := by
 intro a k
 obtain ⟨hu, i, z, hi, hs1, hb1, hz, hzc⟩ := rowTy_out hT
 have hm : i.bytes * n ≤ 281474976710656 := by have := Nat.mul_le_mul hb1 hn; simp only [many] at this; omega
 have h63 : n ≤ maxLen := by simp only [many, maxLen] at *; omega
 have h63' : (n : Int) ≤ 9223372036854775807 := by simp only [maxLen] at h63; omega
 have hb' : (i.bytes : Int) * (n : Int) ≤ 281474976710656 := by
  have h : ((i.bytes * n : Nat) : Int) ≤ 281474976710656 := by omega
  rwa [Int.natCast_mul] at h
 have hr := run_make (P := P) w t e i z hu hi hz kl kc 0 n (Int.le_refl _) (by omega) hb' h63'
 simp only [Int.toNat_zero, Int.toNat_natCast] at hr
 refine st_of (o := ⟨some d, .makeSlice t (.const (.int kl 0)) x, ty, pos, aft, none⟩) (w' := w.alloc (.cells (madeCells z.cells (n * i.size)) e)) rfl ?_ (h _ (by rw [← hs1]; exact World.ownsRow_made w _ n hB h63 (size_madeCells _ _)) (World.grownBy_alloc w _ none) (by simp) _ (k.put _ hd))
 simp only [execOp, eval_const, k.eval hx, Sem.run_bind, hr, Result.andThen_ok, Sem.run_pure]
theorem wl_lookup {x y : Operand} {t kt et bm clock key : Nat} {es : Array MapEntry} {ks : List Nat} (hx : ev L x = some (.map (some bm))) (hy : ev L y = some (.int .u32 (key : Int))) (hu : P.underlying t = some (.map kt et)) (hk : P.underlying kt = some (.int .u32)) (hb : w.heap[bm]? = some (.map es clock)) (hm : Mapped es clock ks) (hin : ∃ e ∈ es, e.key = .int .u32 (key : Int)) (hd : Nat.blt d N = true)
  (h : ∀ e ∈ es, e.key = .int .u32 (key : Int) → WL rest P ops Q N ((d, e.val) :: L) w) : WL (⟨some d, .lookup t x y false, ty, pos, aft, none⟩ :: rest) P ops Q N L w := by
 intro a k
 have hik : MapKept.IsKey (.int .u32) (.int .u32 (key : Int)) := rfl
 have hks : ∀ x ∈ es.toList, MapKept.IsKey (.int .u32) x.key := fun x hx => by
  obtain ⟨k, _, e⟩ := hm.2.2.1 x hx
  rw [e]; rfl
 rcases MapKept.findNow_spec hik es.toList 0 hks with ⟨_, g2⟩ | ⟨j, e, g1, g2, g3⟩
 ·obtain ⟨e, he, hek⟩ := hin
  exact absurd hek (g2 e (Array.mem_toList_iff.2 he))
 ·have hj : es[j]? = some e := by simpa using g2
  refine st_of (o := ⟨some d, .lookup t x y false, ty, pos, aft, none⟩) (v := e.val) (w' := w) rfl ?_ (h e (Array.mem_of_getElem? hj) g3 _ (k.put _ hd))
  simp [execOp, k.eval hx, k.eval hy, Instr.lookup, run_underlying hu, MapKept.run_getObj_map hb, MapKept.run_checkKey hk hik, MapKept.run_findKey hk g1, Result.andThen]
end
theorem sorted_one : ∀ (a b : List Int), a.Perm b → a.Pairwise (fun x y => x ≤ y) → b.Pairwise (fun x y => x ≤ y) → a = b
 | [], b, h, _, _ => (List.Perm.nil_eq h)
 | x :: a, [], h, _, _ => by have := h.length_eq; simp at this
 | x :: a, y :: b, h, ha, hb => by
  have ha' := List.pairwise_cons.1 ha
  have hb' := List.pairwise_cons.1 hb
  have hx : x ∈ y :: b := h.mem_iff.1 (by simp)
  have hy : y ∈ x :: a := h.mem_iff.2 (by simp)
  have e : x = y := by
   rcases List.mem_cons.1 hx with e | hx
   ·exact e
   ·rcases List.mem_cons.1 hy with e | hy
    ·exact e.symm
    ·have := hb'.1 x hx; have := ha'.1 y hy; omega
  subst e
  rw [sorted_one a b h.cons_inv ha'.2 hb'.2]
theorem perm_sub {α : Type} [DecidableEq α] : ∀ (a b : List α), a.Nodup → (∀ x ∈ a, x ∈ b) → b.length ≤ a.length → a.Perm b
 | [], b, _, _, h => by
  have : b = [] := List.length_eq_zero_iff.1 (by simpa using h)
  subst this; exact List.Perm.refl _
 | x :: a, b, hn, hs, hl => by
  have hn' := List.nodup_cons.1 hn
  have hx : x ∈ b := hs x (by simp)
  have h1 := List.perm_cons_erase hx
  refine (List.Perm.cons x (perm_sub a (b.erase x) hn'.2 (fun y hy => ?_) ?_)).trans h1.symm
  ·exact (List.mem_erase_of_ne (fun e => hn'.1 (by rw [← e]; exact hy))).2 (hs y (by simp [hy]))
  ·rw [List.length_erase_of_mem hx]; simp at hl; omega
theorem leftOf_push {es : Array MapEntry} {seen : Array Nat} {e : MapEntry} (he : e ∈ (leftOf es seen).toList) (hn : (es.toList.map (·.born)).Nodup) : (leftOf es seen).toList.Perm (e :: (leftOf es (seen.push e.born)).toList) := by
 have h1 : (leftOf es (seen.push e.born)).toList = (leftOf es seen).toList.filter (fun x => x.born != e.born) := by
  simp only [leftOf, Array.toList_filter, List.filter_filter]
  apply List.filter_congr
  intro x _
  simp only [Array.contains_push]
  cases hb : (x.born == e.born) <;> cases seen.contains x.born <;> simp_all
 rw [h1]
 have hnd : ((leftOf es seen).toList.map (·.born)).Nodup := by
  simp only [leftOf, Array.toList_filter]
  exact (List.filter_sublist.map _).nodup hn
 generalize (leftOf es seen).toList = l at he hnd
 induction l with
 | nil => cases he
 | cons y l ih =>
  simp only [List.map_cons, List.nodup_cons] at hnd
  rcases List.mem_cons.1 he with rfl | he
  ·have hall : l.filter (fun x => x.born != e.born) = l := by
    refine List.filter_eq_self.2 (fun x hx => ?_)
    have : x.born ≠ e.born := fun h => hnd.1 (by rw [← h]; exact List.mem_map.2 ⟨x, hx, rfl⟩)
    simpa using this
   rw [List.filter_cons, if_neg (by simp), hall]
  ·have hne : y.born ≠ e.born := fun h => hnd.1 (by rw [h]; exact List.mem_map.2 ⟨e, he, rfl⟩)
   rw [List.filter_cons, if_pos (by simpa using hne)]
   exact (List.Perm.cons y (ih he hnd.2)).trans (List.Perm.swap _ _ _)
def intOf : Value → Int
 | .int _ n => n
 | _ => 0
theorem keys_sorted {es : Array MapEntry} {clock : Nat} {ks : List Nat} {zs zs' : List Int} (hm : Mapped es clock ks) (hk : ∀ k ∈ ks, ∃ e ∈ es, e.key = .int .u32 (k : Int)) (hz : (zs.map (Value.int .u32)).Perm (es.toList.map (·.key))) (hp : zs'.Perm zs) (hs : zs'.Pairwise (fun x y => x ≤ y)) : zs' = ks.map (fun k : Nat => (k : Int)) := by
 have h1 : (ks.map (fun k : Nat => (k : Int))).Perm (es.toList.map (fun e => intOf e.key)) := by
  refine perm_sub _ _ ?_ ?_ ?_
  ·refine List.pairwise_map.2 (hm.2.2.2.imp (fun h e => by omega))
  ·intro x hx
   obtain ⟨k, hk', rfl⟩ := List.mem_map.1 hx
   obtain ⟨e, he, hek⟩ := hk k hk'
   exact List.mem_map.2 ⟨e, Array.mem_toList_iff.2 he, by rw [hek]; rfl⟩
  ·simp [hm.1]
 have h2 : zs.Perm (es.toList.map (fun e => intOf e.key)) := by
  have := hz.map intOf
  simpa [List.map_map, Function.comp_def, intOf] using this
 exact sorted_one _ _ ((hp.trans h2).trans h1.symm) hs (List.pairwise_map.2 (hm.2.2.2.imp (fun h => by omega)))
theorem semT_at : ∀ (kvs : List (Nat × D)) (ys : List UInt8), semT kvs = some ys → ∀ i (h : i < kvs.length), ∃ pre cs post, semT (kvs.take i) = some pre ∧ ((sliceOf kvs[i].2).bind fun s => bytesOf s.2) = some cs ∧ kvs[i].1 < 4294967296 ∧ cs.length < 2147483648 ∧
  semT (kvs.take (i + 1)) = some (pre ++ (uvar kvs[i].1 ++ uvar cs.length ++ cs)) ∧ ys = pre ++ (uvar kvs[i].1 ++ uvar cs.length ++ cs) ++ post
 | [], _, _, i, h => by cases h
 | kv :: r, ys, hs, i, h => by
  simp only [semT] at hs
  split at hs
  ·rename_i cs b hc hb
   split at hs
   ·rename_i hlt
    cases hs
    cases i with
    | zero =>
     refine ⟨[], cs, b, by simp [semT], by simpa using hc, hlt.1, hlt.2, ?_, by simp⟩
     simp [semT, hc, hlt]
    | succ i =>
     obtain ⟨pre, cs', post, k1, k2, k3, k4, k5, k6⟩ := semT_at r b hb i (by simpa using h)
     refine ⟨uvar kv.1 ++ uvar cs.length ++ cs ++ pre, cs', post, ?_, by simpa using k2, by simpa using k3, k4, ?_, ?_⟩
     ·simp only [List.take_succ_cons, semT, hc, k1, if_pos hlt]
     ·simp only [List.take_succ_cons, semT, hc, k5, if_pos hlt, List.getElem_cons_succ, List.append_assoc]
     ·rw [k6]; simp [List.append_assoc]
   ·cases hs
  ·cases hs
end Go.Proofs.YtgpnpfiafcakfaaGreat

namespace Go.Proofs.YtgpnpfiafcakfaaGreat
open Go Go.RowKit
def Reads (_ver : Int) (_tg _flex : Bool) (sh : List Ck) (H : List D → Prop) (a r : List Ra) (off : Nat) (ys : List UInt8) : Prop :=
 ∀ (pre mid post : List D) (s : List UInt8), shDs mid = sh → unit pre → unit mid → D.widths pre = off →
  ∃ new new', rdAs a (pre ++ mid ++ post) (ys ++ s) = rdAs r (pre ++ new ++ post) s ∧ shDs new = sh ∧ unit new ∧ H new' ∧ shDs new' = sh ∧ pos new' ∧ Imp new new'
theorem Reads.weak {ver : Int} {tg flex : Bool} {sh : List Ck} {H H' : List D → Prop} {a r : List Ra} {off : Nat} {ys : List UInt8} (h : Reads ver tg flex sh H a r off ys) (k : ∀ ds, H ds → H' ds) : Reads ver tg flex sh H' a r off ys := by
 intro pre mid post s hsh hpre hmid hw
 obtain ⟨n1, n1', e1, e2, e3, e4, e5⟩ := h pre mid post s hsh hpre hmid hw
 exact ⟨n1, n1', e1, e2, e3, k _ e4, e5⟩
end Go.Proofs.YtgpnpfiafcakfaaGreat

namespace Go.Proofs.YtgpnpfiafcakfaaGreat
open Go Go.RowKit
end Go.Proofs.YtgpnpfiafcakfaaGreat

namespace Go.Proofs.YtgpnpfiafcakfaaGreat
open Go Go.RowKit
mutual
def tabF (ver : Int) : Fld → Bool
 | .mk kind _ _ _ _ _ of sub => (if kind = 11 then (if of = 10 then tabFs ver sub else !decide (of = 11) && !decide (of = 7)) else if kind = 10 then tabFs ver sub else true)
def tabFs (ver : Int) : List Fld → Bool
 | [] => true
 | f :: fs => decide (f.tag < 0) && (!f.has ver || tabF ver f) && tabFs ver fs
end
theorem att_fitL (ver : Int) : ∀ (fs : List Fld) (i0 : Nat) (t t' : Tree) (k : Nat), (∀ j, j < fs.length → att t' (k + j) = (fitL ver fs i0 t).getD j Tree.none) → ∀ j (h : j < fs.length), att t' (k + j) = fitF ver fs[j] (att t (i0 + j)) := by
 intro fs i0 t t' k h j hj
 rw [h j hj, List.getD_eq_getElem?_getD, List.getElem?_eq_getElem (by rw [fitL_length]; exact hj)]
 simp only [Option.getD_some]
 exact fitL_get ver fs i0 t j hj
theorem att_fitP (ver : Int) (fs : List Fld) (t : Tree) (j : Nat) (h : j < fs.length) : att (fitP ver fs t) j = fitF ver fs[j] (att t j) := by
 have := att_fitL ver fs 0 t (fitP ver fs t) 0 (fun j hj => by simp [fitP, att, Tree.l]) j h
 simpa using this
theorem withNull_att (b : Bool) (t : Tree) (i : Nat) : att (t.withNull b) i = att t i := by cases t; rfl
theorem withNull_u (b : Bool) (t : Tree) : (t.withNull b).u = t.u := by cases t; rfl
theorem withNull_nul (b : Bool) (t : Tree) : (t.withNull b).nul = b := by cases t; rfl
theorem wFs_congr (ver : Int) (flex : Bool) : ∀ (fs : List Fld) (i k : Nat) (t t' : Tree), (∀ j (h : j < fs.length), fs[j].has ver = true → wField ver flex fs[j] (att t' (k + j)) = wField ver flex fs[j] (att t (i + j))) → wFs ver flex fs k t' = wFs ver flex fs i t
 | [], _, _, _, _, _ => by simp [wFs]
 | f :: fs, i, k, t, t', h => by
  simp only [wFs]
  have h0 := h 0 (by simp)
  simp only [List.getElem_cons_zero, Nat.add_zero] at h0
  have e : (if f.tag < 0 ∧ f.has ver = true then wField ver flex f (att t' k) else []) = (if f.tag < 0 ∧ f.has ver = true then wField ver flex f (att t i) else []) := by
   split
   ·rename_i hh; rw [h0 hh.2]
   ·rfl
  rw [e]
  congr 1
  exact wFs_congr ver flex fs (i + 1) (k + 1) t t' (fun j hj hh => by
   have := h (j + 1) (by simpa using hj)
   simp only [List.getElem_cons_succ] at this
   rw [show k + 1 + j = k + (j + 1) by omega, show i + 1 + j = i + (j + 1) by omega]
   exact this hh)
theorem known_zero {fs : List Fld} (h : ∀ f ∈ fs, f.tag < 0) : known fs = 0 := known_none fs 0 h
theorem tab_tags {ver : Int} : ∀ {fs : List Fld}, tabFs ver fs = true → ∀ f ∈ fs, f.tag < 0
 | [], _, f, hf => by cases hf
 | g :: fs, h, f, hf => by
  simp only [tabFs, Bool.and_eq_true, decide_eq_true_eq] at h
  rcases List.mem_cons.1 hf with rfl | hm
  ·exact h.1.1
  ·exact tab_tags h.2 f hm
theorem putTag_end (k : Nat) (v : List UInt8) : ∀ (u : List (Nat × List UInt8)), (∀ kv ∈ u, kv.1 < k) → putTag k v u = u ++ [(k, v)]
 | [], _ => rfl
 | x :: u, h => by
  have := h x (by simp)
  simp only [putTag, if_pos this, putTag_end k v u (fun y hy => h y (by simp [hy])), List.cons_append]
theorem fold_rising : ∀ (u acc : List (Nat × List UInt8)), Rising (acc ++ u) → u.foldl (fun out kv => if kv.1 < 0 then out else putTag kv.1 kv.2 out) acc = acc ++ u
 | [], acc, _ => by simp
 | x :: u, acc, h => by
  simp only [List.foldl_cons, Nat.not_lt_zero, if_false]
  rw [putTag_end x.1 x.2 acc (fun kv hkv => (List.pairwise_append.1 h).2.2 kv hkv x (by simp))]
  have ih := fold_rising u (acc ++ [x]) (by simpa [List.append_assoc] using h)
  simp only [Nat.not_lt_zero, if_false] at ih
  rw [ih]; simp
theorem unknown_self {fs : List Fld} {u : List (Nat × List UInt8)} (hk : known fs = 0) (hr : Rising u) (hl : u.length ≤ Most) : unknown fs u = u := by
 unfold unknown
 rw [List.take_of_length_le hl, hk]
 have := fold_rising u [] (by simpa using hr)
 simpa using this
theorem putTag_len (k : Nat) (v : List UInt8) : ∀ (u : List (Nat × List UInt8)), (putTag k v u).length ≤ u.length + 1
 | [] => by simp [putTag]
 | x :: u => by
  simp only [putTag]
  have := putTag_len k v u
  split
  ·simp; omega
  ·split <;> simp
theorem unknownLen (fs : List Fld) (u : List (Nat × List UInt8)) : (unknown fs u).length ≤ Most := by
 unfold unknown
 have : ∀ (l out : List (Nat × List UInt8)), (l.foldl (fun out kv => if kv.1 < known fs then out else putTag kv.1 kv.2 out) out).length ≤ out.length + l.length := by
  intro l
  induction l with
  | nil => intro out; simp
  | cons x l ih =>
   intro out
   simp only [List.foldl_cons, List.length_cons]
   split
   ·have := ih out; omega
   ·have := ih (putTag x.1 x.2 out); have := putTag_len x.1 x.2 out; omega
 have h := this (u.take Most) []
 have : (u.take Most).length ≤ Most := by simp; omega
 simp only [List.length_nil] at h
 omega
theorem whole_whole (s : List UInt8) : whole (whole s) = whole s := by simp [whole, List.take_take]
theorem whole_len (s : List UInt8) : (whole s).length ≤ Most := by simp [whole]; omega
theorem others_rising (fs : List Fld) (u : List (Nat × List UInt8)) : Rising (others fs u) := by
 unfold others Rising
 exact List.pairwise_map.2 (unknown_rising fs u)
theorem others_self {fs : List Fld} (hk : known fs = 0) (u : List (Nat × List UInt8)) : unknown fs (others fs u) = others fs u := unknown_self hk (others_rising fs u) (by simp [others, unknownLen])
theorem allTags_fit {ver : Int} {flex : Bool} {fs : List Fld} (hk : known fs = 0) (t t' : Tree) (h : t'.u = others fs t.u) : allTags ver flex fs t' = allTags ver flex fs t := by
 unfold allTags
 rw [hk, h, others_self hk]
 simp only [List.range_zero, List.flatMap_nil, List.nil_append, others, List.map_map]
 refine List.map_congr_left (fun kv _ => ?_)
 simp [whole_whole]
theorem fitVal_w (kind : Int) (flex : Bool) (p q : Tree → Tree) (wp : Tree → List UInt8) (null : Bool) (t : Tree) (h10 : kind = 10 → wp ((p t).withNull null) = wp t) : wVal kind flex null wp (fitVal kind null p t) = wVal kind flex null wp t := by
 unfold fitVal
 by_cases h8 : kind = 8 ∨ kind = 9
 ·rw [if_pos h8]
  rcases h8 with rfl | rfl <;> simp [wVal, Tree.s, whole_whole]
 ·rw [if_neg h8]
  by_cases h : kind = 10
  ·rw [if_pos h]; subst h; simp only [wVal]; simpa using h10 rfl
  ·rw [if_neg h]
   have h8' : kind ≠ 8 := fun e => h8 (.inl e)
   have h9' : kind ≠ 9 := fun e => h8 (.inr e)
   simp [wVal, h8', h9', h, Tree.n, Tree.s]
theorem fitVal_nul (kind : Int) (null : Bool) (p : Tree → Tree) (t : Tree) (h : kind = 8 ∨ kind = 9 ∨ kind = 10) : (fitVal kind null p t).nul = null := by
 unfold fitVal
 rcases h with rfl | rfl | rfl
 ·simp [Tree.nul]
 ·simp [Tree.nul]
 ·simp [withNull_nul]
theorem fld_null (kind fr upto nul tag df of : Int) (sub : List Fld) (ver : Int) (t : Tree) : (Fld.mk kind fr upto nul tag df of sub).null ver t = (t.nul && decide (0 ≤ nul) && decide (nul ≤ ver)) := rfl
theorem mk_nul (n : Int) (s : List UInt8) (b : Bool) (l : List Tree) (u : List (Nat × List UInt8)) : (Tree.mk n s b l u).nul = b := rfl
theorem mk_l (n : Int) (s : List UInt8) (b : Bool) (l : List Tree) (u : List (Nat × List UInt8)) : (Tree.mk n s b l u).l = l := rfl
theorem wPart_fit_of {ver : Int} {flex : Bool} {fs : List Fld} (ht : ∀ f ∈ fs, f.tag < 0) (h : ∀ j (hj : j < fs.length), fs[j].has ver = true → ∀ x, wField ver flex fs[j] (fitF ver fs[j] x) = wField ver flex fs[j] x) (t : Tree) (b : Bool) :
  wPart ver flex fs ((fitP ver fs t).withNull b) = wPart ver flex fs t := by
 unfold wPart
 have e1 : wFs ver flex fs 0 ((fitP ver fs t).withNull b) = wFs ver flex fs 0 t := wFs_congr ver flex fs 0 0 t _ (fun j hj hh => by
  rw [withNull_att]
  simp only [Nat.zero_add]
  rw [att_fitP ver fs t j hj]
  exact h j hj hh _)
 rw [e1, allTags_fit (known_zero ht) t _ (by rw [withNull_u]; rfl)]
mutual
theorem wField_fit (ver : Int) (flex : Bool) : ∀ (f : Fld), f.tag < 0 → tabF ver f = true → ∀ x, wField ver flex f (fitF ver f x) = wField ver flex f x
 | .mk kind fr upto nul tag df of sub, htag, htab, x => by
  have htag' : ¬ (0 ≤ tag) := by have : tag < 0 := htag; omega
  simp only [tabF] at htab
  rw [fitF_eq]
  rw [fld_null]
  simp only [Fld.kind, Fld.tag, Fld.of, Fld.sub]
  by_cases h11 : kind = 11
  ·simp only [h11, if_true] at htab ⊢
   rw [wField_mk ver flex 11 fr upto nul tag df of sub _ _ rfl, wField_mk ver flex 11 fr upto nul tag df of sub x _ rfl]
   simp only [htag', decide_false, Bool.false_and, Bool.or_false, mk_nul, mk_l, if_true]
   have en : (x.nul && decide (0 ≤ nul) && decide (nul ≤ ver) && decide (0 ≤ nul) && decide (nul ≤ ver)) = (x.nul && decide (0 ≤ nul) && decide (nul ≤ ver)) := by
    cases x.nul <;> cases decide (0 ≤ nul) <;> cases decide (nul ≤ ver) <;> rfl
   rw [en]
   have el : things ((things x.l).map (fitVal of false (fitP ver sub))) = (things x.l).map (fitVal of false (fitP ver sub)) := things_of (by simp [things]; omega)
   rw [el]
   generalize (x.nul && decide (0 ≤ nul) && decide (nul ≤ ver)) = nb
   cases nb with
   | true => rfl
   | false =>
    simp only [Bool.false_eq_true, if_false, List.length_map, List.flatMap_map]
    congr 1
    refine congrArg (fun g => (things x.l).flatMap g) (funext fun y => ?_)
    refine fitVal_w of flex _ (fitP ver sub) _ false y (fun h10 => ?_)
    rw [if_pos h10] at htab
    exact wFsub_fit ver flex sub htab y false
  ·simp only [h11, if_false] at htab ⊢
   rw [wField_mk ver flex kind fr upto nul tag df of sub _ _ rfl, wField_mk ver flex kind fr upto nul tag df of sub x _ rfl]
   simp only [h11, if_false]
   by_cases h10 : kind = 10
   ·simp only [h10, if_true] at htab
    subst h10
    rw [fitVal_nul 10 _ _ _ (.inr (.inr rfl))]
    have en : (x.nul && decide (0 ≤ nul) && decide (nul ≤ ver) && decide (0 ≤ nul) && decide (nul ≤ ver)) = (x.nul && decide (0 ≤ nul) && decide (nul ≤ ver)) := by
     cases x.nul <;> cases decide (0 ≤ nul) <;> cases decide (nul ≤ ver) <;> rfl
    rw [en]
    have ew : wPart ver flex sub (fitVal 10 (x.nul && decide (0 ≤ nul) && decide (nul ≤ ver)) (fitP ver sub) x) = wPart ver flex sub x := by
     simp only [fitVal]
     exact wFsub_fit ver flex sub htab x _
    simp only [wVal, ew]
    rfl
   ·simp only [h10, false_and, if_false]
    by_cases h89 : kind = 8 ∨ kind = 9
    ·rw [fitVal_nul kind _ _ _ (by rcases h89 with h | h; exact .inl h; exact .inr (.inl h))]
     have en : (x.nul && decide (0 ≤ nul) && decide (nul ≤ ver) && decide (0 ≤ nul) && decide (nul ≤ ver)) = (x.nul && decide (0 ≤ nul) && decide (nul ≤ ver)) := by
      cases x.nul <;> cases decide (0 ≤ nul) <;> cases decide (nul ≤ ver) <;> rfl
     rw [en]
     exact fitVal_w kind flex _ (fitP ver sub) _ _ x (fun h => absurd h h10)
    ·have a8 : kind ≠ 8 := fun e => h89 (.inl e)
     have a9 : kind ≠ 9 := fun e => h89 (.inr e)
     simp [fitVal, wVal, a8, a9, h10, Tree.n, Tree.s]
theorem wFsub_fit (ver : Int) (flex : Bool) : ∀ (fs : List Fld), tabFs ver fs = true → ∀ (t : Tree) (b : Bool), wPart ver flex fs ((fitP ver fs t).withNull b) = wPart ver flex fs t
 | fs, h, t, b => wPart_fit_of (tab_tags h) (wEach_fit ver flex fs h) t b
theorem wEach_fit (ver : Int) (flex : Bool) : ∀ (fs : List Fld), tabFs ver fs = true → ∀ j (hj : j < fs.length), fs[j].has ver = true → ∀ x, wField ver flex fs[j] (fitF ver fs[j] x) = wField ver flex fs[j] x
 | [], _, j, hj, _ => by cases hj
 | f :: fs, h, j, hj, hh => by
  simp only [tabFs, Bool.and_eq_true, Bool.or_eq_true, Bool.not_eq_true', decide_eq_true_eq] at h
  cases j with
  | zero =>
   intro x
   simp only [List.getElem_cons_zero] at hh ⊢
   refine wField_fit ver flex f h.1.1 ?_ x
   rcases h.1.2 with h1 | h1
   ·rw [hh] at h1; cases h1
   ·exact h1
  | succ j => exact wEach_fit ver flex fs h.2 j (by simpa using hj) hh
end
end Go.Proofs.YtgpnpfiafcakfaaGreat

namespace Go.Proofs.YtgpnpfiafcakfaaGreat
mutual
def Tree.ok : Tree → Prop
 | .mk n s _ l u => s.length ≤ 9223372036854775807 ∧ (∀ kv ∈ u, kv.1 < 4294967296) ∧ Tree.oks l ∧ (-9223372036854775808 ≤ n ∧ n ≤ 9223372036854775807)
def Tree.oks : List Tree → Prop
 | [] => True
 | t :: l => t.ok ∧ Tree.oks l
end
mutual
def Fld.okb : Fld → Bool
 | .mk _ _ _ _ tag _ of sub => decide (tag < 2147483647) && decide (of ≠ 11) && Nat.ble sub.length 1000 && Fld.oksb sub
def Fld.oksb : List Fld → Bool
 | [] => true
 | f :: l => f.okb && Fld.oksb l
end
theorem Tree.oks_mem : ∀ {l : List Tree}, Tree.oks l → ∀ t ∈ l, t.ok
 | [], _, t, h => by cases h
 | x :: l, h, t, ht => by
  simp only [Tree.oks] at h
  rcases List.mem_cons.1 ht with rfl | h1
  ·exact h.1
  ·exact Tree.oks_mem h.2 t h1
theorem Tree.ok_none : Tree.none.ok := by simp [Tree.none, Tree.ok, Tree.oks]
theorem Tree.ok.at {t : Tree} (h : t.ok) (i : Nat) : (att t i).ok := by
 cases t with
 | mk n s nul l u =>
  simp only [Tree.ok] at h
  unfold att
  by_cases hi : i < l.length
  ·have : (Tree.mk n s nul l u).l.getD i Tree.none = l[i] := by simp [Tree.l, hi]
   rw [this]; exact Tree.oks_mem h.2.2.1 _ (List.getElem_mem _)
  ·have : (Tree.mk n s nul l u).l.getD i Tree.none = Tree.none := by simp [Tree.l, List.getD, List.getElem?_eq_none (by omega : l.length ≤ i)]
   rw [this]; exact Tree.ok_none
theorem Tree.ok.s {t : Tree} (h : t.ok) : t.s.length ≤ 9223372036854775807 := by cases t; simp only [Tree.ok] at h; exact h.1
theorem Tree.ok.u {t : Tree} (h : t.ok) : ∀ kv ∈ t.u, kv.1 < 4294967296 := by cases t; simp only [Tree.ok] at h; exact h.2.1
theorem Tree.ok.l {t : Tree} (h : t.ok) : ∀ x ∈ t.l, x.ok := by cases t; simp only [Tree.ok] at h; exact Tree.oks_mem h.2.2.1
theorem Tree.ok.n {t : Tree} (h : t.ok) : -9223372036854775808 ≤ t.n ∧ t.n ≤ 9223372036854775807 := by cases t; simp only [Tree.ok] at h; exact h.2.2.2
mutual
def Tree.small : Tree → Prop
 | .mk _ _ _ l u => (l.length ≤ 1000000000 ∧ u.length ≤ 1000000000) ∧ Tree.smalls l
def Tree.smalls : List Tree → Prop
 | [] => True
 | t :: l => t.small ∧ Tree.smalls l
end
theorem Tree.smalls_mem : ∀ {l : List Tree}, Tree.smalls l → ∀ t ∈ l, t.small
 | [], _, t, h => by cases h
 | x :: l, h, t, ht => by
  simp only [Tree.smalls] at h
  rcases List.mem_cons.1 ht with rfl | h1
  ·exact h.1
  ·exact Tree.smalls_mem h.2 t h1
theorem Tree.small.lens {t : Tree} (h : t.small) : t.l.length ≤ 1000000000 ∧ t.u.length ≤ 1000000000 := by cases t; simp only [Tree.small] at h; exact h.1
theorem Tree.small.l {t : Tree} (h : t.small) : ∀ x ∈ t.l, x.small := by cases t; simp only [Tree.small] at h; exact Tree.smalls_mem h.2
theorem Fld.oksb_mem : ∀ {l : List Fld}, Fld.oksb l = true → ∀ f ∈ l, f.okb = true
 | [], _, t, h => by cases h
 | x :: l, h, t, ht => by
  simp only [Fld.oksb, Bool.and_eq_true] at h
  rcases List.mem_cons.1 ht with rfl | h1
  ·exact h.1
  ·exact Fld.oksb_mem h.2 t h1
theorem Fld.okb_tag {f : Fld} (h : f.okb = true) : f.tag < 2147483647 := by
 cases f; simp only [Fld.okb, Bool.and_eq_true, decide_eq_true_eq] at h; exact h.1.1.1
theorem Fld.okb_of {f : Fld} (h : f.okb = true) : f.of ≠ 11 := by
 cases f; simp only [Fld.okb, Bool.and_eq_true, decide_eq_true_eq] at h; exact h.1.1.2
theorem Fld.okb_sub {f : Fld} (h : f.okb = true) : Fld.oksb f.sub = true ∧ f.sub.length ≤ 1000 := by
 cases f; simp only [Fld.okb, Bool.and_eq_true, decide_eq_true_eq] at h; exact ⟨h.2, Nat.le_of_ble_eq_true h.1.2⟩
def fsok (fs : List Fld) : Bool := Fld.oksb fs && Nat.ble fs.length 1000
theorem fsok.sub {f : Fld} (h : f.okb = true) : fsok f.sub = true := by
 have := Fld.okb_sub h
 simp only [fsok, Bool.and_eq_true]
 exact ⟨this.1, Nat.ble_eq_true_of_le this.2⟩
theorem fsok.mem {fs : List Fld} (h : fsok fs = true) : ∀ f ∈ fs, f.okb = true := by
 simp only [fsok, Bool.and_eq_true] at h; exact Fld.oksb_mem h.1
theorem fsok.len {fs : List Fld} (h : fsok fs = true) : fs.length ≤ 1000 := by
 simp only [fsok, Bool.and_eq_true] at h; exact Nat.le_of_ble_eq_true h.2
theorem fsok.tag {fs : List Fld} (h : fsok fs = true) : ∀ f ∈ fs, f.tag < 2147483647 := fun f hf => Fld.okb_tag (fsok.mem h f hf)
end Go.Proofs.YtgpnpfiafcakfaaGreat

namespace Go.Proofs.YtgpnpfiafcakfaaGreat
open Go Go.RowKit
theorem fitU_fit {fs : List Fld} (hk : known fs = 0) {t t' : Tree} (ho : ∀ kv ∈ t.u, kv.1 < 4294967296) (h : t'.u = others fs t.u) : FitU fs t' := by
 have sub : ∀ kv ∈ unknown fs t.u, ∃ x ∈ t.u, x.1 = kv.1 := by
  unfold unknown
  have put : ∀ (k : Nat) (v : List UInt8) (u : List (Nat × List UInt8)), ∀ kv ∈ putTag k v u, kv.1 = k ∨ kv ∈ u := by
   intro k v u
   induction u with
   | nil => intro kv h; simp [putTag] at h; subst h; exact .inl rfl
   | cons x u ih =>
    intro kv h
    simp only [putTag] at h
    split at h
    ·rcases List.mem_cons.1 h with rfl | h
     ·exact .inr (by simp)
     ·rcases ih kv h with h | h
      ·exact .inl h
      ·exact .inr (by simp [h])
    ·split at h
     ·exact .inr h
     ·rcases List.mem_cons.1 h with rfl | h
      ·exact .inl rfl
      ·exact .inr h
  have : ∀ (l out : List (Nat × List UInt8)), ∀ kv ∈ l.foldl (fun out kv => if kv.1 < known fs then out else putTag kv.1 kv.2 out) out, (∃ x ∈ l, x.1 = kv.1) ∨ kv ∈ out := by
   intro l
   induction l with
   | nil => intro out kv h; exact .inr h
   | cons x l ih =>
    intro out kv h
    simp only [List.foldl_cons] at h
    rcases ih _ kv h with ⟨y, hy, e⟩ | h
    ·exact .inl ⟨y, by simp [hy], e⟩
    ·split at h
     ·exact .inr h
     ·rcases put _ _ _ kv h with h | h
      ·exact .inl ⟨x, by simp, h.symm⟩
      ·exact .inr h
  intro kv hkv
  rcases this _ _ kv hkv with ⟨x, hx, e⟩ | h
  ·exact ⟨x, List.mem_of_mem_take hx, e⟩
  ·cases h
 refine ⟨by rw [h, others_self hk], ?_, by rw [h]; simp [others, unknownLen]⟩
 intro kv hkv
 rw [h] at hkv
 simp only [others, List.mem_map] at hkv
 obtain ⟨x, hx, rfl⟩ := hkv
 obtain ⟨y, hy, e⟩ := sub x hx
 have := ho y hy
 exact ⟨by show x.1 < _; omega, whole_len _⟩
theorem fitV_fit (kind : Int) (null : Bool) (p : Tree → Tree) (t : Tree) (h10 : kind ≠ 10) : FitV kind (fitVal kind null p t) := by
 intro h
 unfold fitVal
 rw [if_pos h]
 exact whole_len _
mutual
theorem fitF_ok (ver : Int) : ∀ (f : Fld), f.tag < 0 → tabF ver f = true → ∀ x : Tree, x.ok → FitF ver f (fitF ver f x)
 | .mk kind fr upto nul tag df of sub, htag, htab, x, hx => by
  have htag' : ¬ (0 ≤ tag) := by have : tag < 0 := htag; omega
  simp only [tabF] at htab
  have hnn : ∀ b : Bool, b = (x.nul && decide (0 ≤ nul) && decide (nul ≤ ver)) → b = true → nul ≤ ver := by
   intro b e1 e2
   rw [e1] at e2
   simp only [Bool.and_eq_true, decide_eq_true_eq] at e2
   exact e2.2
  rw [fitF_eq]
  rw [fld_null]
  simp only [Fld.kind, Fld.tag, Fld.of, Fld.sub, FitF]
  by_cases h11 : kind = 11
  ·simp only [h11, if_true] at htab ⊢
   simp only [htag', decide_false, Bool.false_and, Bool.or_false, mk_nul, mk_l]
   refine ⟨fun _ e => hnn _ rfl e, by simp [things]; omega, fun h10 => ?_, fun h10 => ?_⟩
   ·rw [if_pos h10] at htab
    intro y hy
    obtain ⟨z, hz, rfl⟩ := List.mem_map.1 hy
    have hzo := hx.l z (List.mem_of_mem_take hz)
    subst h10
    simp only [fitVal]
    exact ⟨fitPart_ok ver sub htab z hzo false, fitU_fit (known_zero (tab_tags htab)) hzo.u (by show ((fitP ver sub z).withNull false).u = _; rw [withNull_u]; rfl)⟩
   ·rw [if_neg h10] at htab
    simp at htab
    refine ⟨htab, fun y hy => ?_⟩
    obtain ⟨z, hz, rfl⟩ := List.mem_map.1 hy
    exact fitV_fit of false _ z h10
  ·simp only [h11, if_false] at htab ⊢
   by_cases h10 : kind = 10
   ·simp only [h10, if_true] at htab ⊢
    refine ⟨fun _ e => ?_, ?_, ?_⟩
    ·rw [fitVal_nul 10 _ _ _ (.inr (.inr rfl))] at e
     exact hnn _ rfl e
    ·simp only [fitVal]
     exact fitPart_ok ver sub htab x hx _
    ·exact fitU_fit (known_zero (tab_tags htab)) hx.u (by subst h10; show ((fitP ver sub x).withNull _).u = _; rw [withNull_u]; rfl)
   ·simp only [h10, if_false]
    refine ⟨fun _ e => ?_, fitV_fit kind _ _ x h10⟩
    by_cases h89 : kind = 8 ∨ kind = 9
    ·rw [fitVal_nul kind _ _ _ (by rcases h89 with h | h; exact .inl h; exact .inr (.inl h))] at e
     exact hnn _ rfl e
    ·unfold fitVal at e
     rw [if_neg h89, if_neg h10] at e
     cases e
theorem fitPart_ok (ver : Int) : ∀ (fs : List Fld), tabFs ver fs = true → ∀ (t : Tree), t.ok → ∀ b, FitFs ver fs 0 ((fitP ver fs t).withNull b)
 | fs, h, t, ht, b => fitFs_ok ver fs h 0 _ (fun j hj => ⟨att t j, ht.at j, by rw [withNull_att, Nat.zero_add, att_fitP ver fs t j hj]⟩)
theorem fitFs_ok (ver : Int) : ∀ (fs : List Fld), tabFs ver fs = true → ∀ (i : Nat) (t' : Tree), (∀ j (hj : j < fs.length), ∃ x : Tree, x.ok ∧ att t' (i + j) = fitF ver fs[j] x) → FitFs ver fs i t'
 | [], _, _, _, _ => by simp [FitFs]
 | f :: fs, h, i, t', hall => by
  simp only [tabFs, Bool.and_eq_true, Bool.or_eq_true, Bool.not_eq_true', decide_eq_true_eq] at h
  simp only [FitFs]
  refine ⟨h.1.1, fun hh => ?_, fitFs_ok ver fs h.2 (i + 1) t' (fun j hj => ?_)⟩
  ·obtain ⟨x, hx, e⟩ := hall 0 (by simp)
   simp only [Nat.add_zero, List.getElem_cons_zero] at e
   rw [e]
   refine fitF_ok ver f h.1.1 ?_ x hx
   rcases h.1.2 with h1 | h1
   ·rw [hh] at h1; cases h1
   ·exact h1
  ·obtain ⟨x, hx, e⟩ := hall (j + 1) (by simpa using hj)
   exact ⟨x, hx, by rw [show i + 1 + j = i + (j + 1) by omega, e]; simp⟩
end
theorem fitt_ok {ver : Int} {fs : List Fld} (h : tabFs ver fs = true) {t : Tree} (ht : t.ok) (flex : Bool) : FitT ver fs ((fitP ver fs t).withNull false) ∧ wPart ver flex fs ((fitP ver fs t).withNull false) = wPart ver flex fs t :=
 ⟨⟨fitPart_ok ver fs h t ht false, fitU_fit (known_zero (tab_tags h)) ht.u (by rw [withNull_u]; rfl)⟩, wFsub_fit ver flex fs h t false⟩
end Go.Proofs.YtgpnpfiafcakfaaGreat

namespace Go.Proofs.YtgpnpfiafcakfaaGreat
def tagsW (u : List (Nat × List UInt8)) : Nat := (u.map fun kv => kv.2.length + 1).sum
mutual
def Tree.wt : Tree → Nat
 | .mk _ s _ l u => 1 + s.length + tagsW u + Tree.wts l
def Tree.wts : List Tree → Nat
 | [] => 0
 | t :: l => t.wt + Tree.wts l
end
mutual
def Fld.cost : Fld → Nat
 | .mk _ _ _ _ _ _ _ sub => 60 + ((1 + known sub) * Fld.costs sub + 60)
def Fld.costs : List Fld → Nat
 | [] => 0
 | f :: l => f.cost + 30 + Fld.costs l
end
theorem Tree.wt_pos (t : Tree) : 1 ≤ t.wt := by cases t; simp only [Tree.wt]; omega
theorem wts_mem : ∀ {l : List Tree} {t : Tree}, t ∈ l → t.wt ≤ Tree.wts l
 | x :: l, t, h => by
  simp only [Tree.wts]
  rcases List.mem_cons.1 h with rfl | h1
  ·omega
  ·have := wts_mem h1; omega
theorem wts_take : ∀ (l : List Tree) (n : Nat), Tree.wts (l.take n) ≤ Tree.wts l
 | [], n => by simp
 | x :: l, 0 => by simp [Tree.wts]
 | x :: l, n + 1 => by simp only [List.take_succ_cons, Tree.wts]; have := wts_take l n; omega
theorem att_wt (t : Tree) (i : Nat) : (att t i).wt ≤ t.wt := by
 cases t with
 | mk n s nul l u =>
  unfold att
  by_cases hi : i < l.length
  ·have e : (Tree.mk n s nul l u).l.getD i Tree.none = l[i] := by simp [Tree.l, hi]
   rw [e]
   have := wts_mem (List.getElem_mem hi)
   simp only [Tree.wt]; omega
  ·have e : (Tree.mk n s nul l u).l.getD i Tree.none = Tree.none := by simp [Tree.l, List.getD, List.getElem?_eq_none (by omega : l.length ≤ i)]
   rw [e]
   simp only [Tree.none, Tree.wt, tagsW, Tree.wts]; simp; omega
theorem s_wt (t : Tree) : t.s.length + 1 ≤ t.wt := by cases t; simp only [Tree.wt, Tree.s]; omega
theorem l_wt (t : Tree) : Tree.wts t.l + 1 ≤ t.wt := by cases t; simp only [Tree.wt, Tree.l]; omega
theorem u_wt (t : Tree) : tagsW t.u + 1 ≤ t.wt := by cases t; simp only [Tree.wt, Tree.u]; omega
theorem uvar_le6 (n : Nat) (h : n < 34359738368) : (uvar n).length ≤ 6 := by
 rw [uvar]; split
 ·simp
 ·rw [uvar]; split
  ·simp
  ·rw [uvar]; split
   ·simp
   ·rw [uvar]; split
    ·simp
    ·rw [uvar]; split
     ·simp
     ·omega
theorem be_len : ∀ (k : Nat) (n : Int), (be k n).length = k
 | 0, _ => rfl
 | k + 1, n => by simp only [be, List.length_cons, be_len k n]
theorem counted_le (flex null : Bool) (n size : Nat) (hn : n ≤ 1000000) (hs : size ≤ 8) : (counted flex null n size).length ≤ 8 := by
 unfold counted
 split
 ·split
  ·simp
  ·exact Nat.le_trans (uvar_le6 _ (by omega)) (by omega)
 ·split <;> rw [be_len] <;> exact hs
theorem whole_le (s : List UInt8) : (whole s).length ≤ s.length ∧ (whole s).length ≤ 32767 := by
 unfold whole Most; rw [List.length_take]; omega
theorem width8 (k : Int) : width k ≤ 8 := by
 unfold width
 split
 ·omega
 ·split
  ·omega
  ·split <;> omega
theorem wVal_le (kind : Int) (flex null : Bool) (p : Tree → List UInt8) (t : Tree) (c : Nat) (hp : (p t).length ≤ c * t.wt) : (wVal kind flex null p t).length ≤ (c + 24) * t.wt := by
 have h1 := t.wt_pos
 have hs := s_wt t
 have hw := whole_le t.s
 have hif : (if null then ([] : List UInt8) else whole t.s).length ≤ t.s.length ∧ (if null then ([] : List UInt8) else whole t.s).length ≤ 32767 := by
  cases null
  ·exact hw
  ·simp
 have hmul : (c + 24) * t.wt = c * t.wt + 24 * t.wt := by rw [Nat.add_mul]
 unfold wVal
 split
 ·simp; omega
 ·split
  ·simp only [sixteen, List.length_take]; omega
  ·split
   ·have := counted_le flex null (if null then ([] : List UInt8) else whole t.s).length 2 (by omega) (by omega)
    rw [List.length_append]; omega
   ·split
    ·have := counted_le flex null (if null then ([] : List UInt8) else whole t.s).length 4 (by omega) (by omega)
     rw [List.length_append]; omega
    ·split
     ·omega
     ·rw [be_len]
      have := width8 kind
      omega
def tagsB (l : List (Nat × List UInt8)) : Nat := (l.map fun kv => (wTag kv.1 kv.2).length).sum
theorem tagsB_append (a b : List (Nat × List UInt8)) : tagsB (a ++ b) = tagsB a + tagsB b := by simp [tagsB]
theorem flat_tagsB (l : List (Nat × List UInt8)) : (l.flatMap fun kv => wTag kv.1 kv.2).length = tagsB l := by
 induction l with
 | nil => rfl
 | cons a l ih => simp [tagsB]
theorem tagsW_append (a b : List (Nat × List UInt8)) : tagsW (a ++ b) = tagsW a + tagsW b := by simp [tagsW]
theorem putTag_W (k : Nat) (v : List UInt8) (l : List (Nat × List UInt8)) : tagsW (putTag k v l) ≤ tagsW l + v.length + 1 := by
 induction l with
 | nil => simp [putTag, tagsW]
 | cons a l ih =>
  simp only [putTag]
  split
  ·simp only [tagsW, List.map_cons, List.sum_cons] at *; omega
  ·split
   ·omega
   ·simp only [tagsW, List.map_cons, List.sum_cons]; omega
theorem unknown_W (fs : List Fld) (u : List (Nat × List UInt8)) : tagsW (unknown fs u) ≤ tagsW u := by
 have gen : ∀ (l out : List (Nat × List UInt8)), tagsW (l.foldl (fun out kv => if kv.1 < known fs then out else putTag kv.1 kv.2 out) out) ≤ tagsW out + tagsW l := by
  intro l
  induction l with
  | nil => intro out; simp [tagsW]
  | cons a l ih =>
   intro out
   have h1 := ih (if a.1 < known fs then out else putTag a.1 a.2 out)
   have h2 : tagsW (if a.1 < known fs then out else putTag a.1 a.2 out) ≤ tagsW out + a.2.length + 1 := by
    split
    ·omega
    ·exact putTag_W _ _ _
   simp only [List.foldl_cons]
   simp only [tagsW, List.map_cons, List.sum_cons] at *
   omega
 have ht : tagsW (u.take Most) ≤ tagsW u := by
  have : tagsW u = tagsW (u.take Most) + tagsW (u.drop Most) := by rw [← tagsW_append, List.take_append_drop]
  omega
 have h0 : tagsW ([] : List (Nat × List UInt8)) = 0 := rfl
 have := gen (u.take Most) []
 unfold unknown
 omega
theorem putTag_key (k : Nat) (v : List UInt8) (l : List (Nat × List UInt8)) : ∀ x ∈ putTag k v l, x = (k, v) ∨ x ∈ l := by
 induction l with
 | nil => intro x hx; simp [putTag] at hx; exact .inl hx
 | cons a l ih =>
  intro x hx
  simp only [putTag] at hx
  split at hx
  ·rcases List.mem_cons.1 hx with rfl | h
   ·exact .inr (by simp)
   ·rcases ih x h with h | h
    ·exact .inl h
    ·exact .inr (by simp [h])
  ·split at hx
   ·exact .inr hx
   ·rcases List.mem_cons.1 hx with rfl | h
    ·exact .inl rfl
    ·exact .inr h
theorem unknown_in (fs : List Fld) (u : List (Nat × List UInt8)) : ∀ x ∈ unknown fs u, x ∈ u := by
 have gen : ∀ (l out : List (Nat × List UInt8)), ∀ x ∈ l.foldl (fun out kv => if kv.1 < known fs then out else putTag kv.1 kv.2 out) out, x ∈ out ∨ x ∈ l := by
  intro l
  induction l with
  | nil => intro out x hx; exact .inl hx
  | cons a l ih =>
   intro out x hx
   rcases ih _ x hx with h | h
   ·simp only [] at h
    split at h
    ·exact .inl h
    ·rcases putTag_key _ _ _ x h with rfl | h
     ·exact .inr (by simp)
     ·exact .inl h
   ·exact .inr (by simp [h])
 intro x hx
 rcases gen (u.take Most) [] x hx with h | h
 ·cases h
 ·exact List.mem_of_mem_take h
theorem others_le (fs : List Fld) (t : Tree) (hok : t.ok) : tagsB (others fs t.u) ≤ 14 * t.wt := by
 have h1 := unknown_W fs t.u
 have h2 := u_wt t
 have h3 : tagsB (others fs t.u) ≤ 13 * tagsW (unknown fs t.u) := by
  have gen : ∀ l : List (Nat × List UInt8), (∀ kv ∈ l, kv.1 < 4294967296) → tagsB (l.map fun kv => (kv.1, whole kv.2)) ≤ 13 * tagsW l := by
   intro l
   induction l with
   | nil => intro _; simp [tagsB]
   | cons a l ih =>
    intro h
    have := ih (fun x hx => h x (by simp [hx]))
    have ha := uvar_le6 a.1 (by have := h a (by simp); omega)
    have hb := uvar_le6 (whole a.2).length (by have := (whole_le a.2).2; omega)
    have hc := (whole_le a.2).1
    simp only [tagsB, tagsW, List.map_cons, List.sum_cons, wTag, List.length_append] at *
    omega
  exact gen _ (fun kv hkv => hok.u kv (unknown_in fs t.u kv hkv))
 omega
theorem things_le (g : Tree → List UInt8) (c : Nat) : ∀ (l : List Tree), (∀ x ∈ l, (g x).length ≤ c * x.wt) → (l.flatMap g).length ≤ c * Tree.wts l
 | [], _ => by simp
 | x :: l, h => by
  have h1 := h x (by simp)
  have h2 := things_le g c l (fun y hy => h y (by simp [hy]))
  simp only [List.flatMap_cons, List.length_append, Tree.wts, Nat.mul_add]; omega
end Go.Proofs.YtgpnpfiafcakfaaGreat

namespace Go.Proofs.YtgpnpfiafcakfaaGreat
theorem uvar_le1 (n : Nat) : (uvar n).length ≤ n + 1 := by
 induction n using Nat.strongRecOn with
 | _ n ih =>
  rw [uvar]; split
  ·simp
  ·have := ih (n / 128) (by omega)
   simp only [List.length_cons]; omega
theorem uvar_few (a b : Nat) (h : b ≤ 32767) : (uvar (a + b)).length ≤ a + 258 := by
 rw [uvar]; split
 ·simp
 ·have := uvar_le1 ((a + b) / 128)
  simp only [List.length_cons]; omega
def tagsC (l : List (Nat × List UInt8)) : Nat := (l.map fun kv => 1 + (wTag kv.1 kv.2).length).sum
theorem tagsC_eq (l : List (Nat × List UInt8)) : tagsC l = l.length + tagsB l := by
 induction l with
 | nil => rfl
 | cons a l ih => simp only [tagsC, tagsB, List.map_cons, List.sum_cons, List.length_cons] at *; omega
theorem tagsC_append (a b : List (Nat × List UInt8)) : tagsC (a ++ b) = tagsC a + tagsC b := by simp [tagsC]
theorem tagsC_range (g : Nat → List (Nat × List UInt8)) (M : Nat) : ∀ n, (∀ k, tagsC (g k) ≤ M) → tagsC ((List.range n).flatMap g) ≤ n * M
 | 0, _ => by simp [tagsC]
 | n + 1, h => by
  rw [List.range_succ, List.flatMap_append, tagsC_append, Nat.succ_mul]
  have := tagsC_range g M n h
  have := h n
  simp only [List.flatMap_cons, List.flatMap_nil, List.append_nil]; omega
theorem unknown_few (fs : List Fld) (u : List (Nat × List UInt8)) : (unknown fs u).length ≤ 32767 := by
 have put : ∀ (k : Nat) (v : List UInt8) (l : List (Nat × List UInt8)), (putTag k v l).length ≤ l.length + 1 := by
  intro k v l
  induction l with
  | nil => simp [putTag]
  | cons a l ih =>
   simp only [putTag]
   split
   ·simp; omega
   ·split
    ·simp
    ·simp
 have gen : ∀ (l out : List (Nat × List UInt8)), (l.foldl (fun out kv => if kv.1 < known fs then out else putTag kv.1 kv.2 out) out).length ≤ out.length + l.length := by
  intro l
  induction l with
  | nil => intro out; simp
  | cons a l ih =>
   intro out
   have h1 := ih (if a.1 < known fs then out else putTag a.1 a.2 out)
   have h2 : (if a.1 < known fs then out else putTag a.1 a.2 out).length ≤ out.length + 1 := by
    split
    ·omega
    ·exact put _ _ _
   simp only [List.foldl_cons, List.length_cons]; omega
 have h := gen (u.take Most) []
 have hM : (u.take Most).length ≤ 32767 := by rw [List.length_take]; exact Nat.min_le_left _ _
 unfold unknown
 simp only [List.length_nil] at h; omega
theorem others_few (fs : List Fld) (u : List (Nat × List UInt8)) : (others fs u).length ≤ 32767 := by
 simp only [others, List.length_map]; exact unknown_few fs u
theorem part_leF (ver : Int) (flex : Bool) (fs : List Fld) (t : Tree) (M O : Nat) (hF : (wFs ver flex fs 0 t).length ≤ M) (hT : ∀ k, tagsC (wTs ver flex fs 0 k t) ≤ M) (hO : tagsB (others fs t.u) ≤ O) :
  (wPart ver flex fs t).length ≤ (1 + known fs) * M + (bif flex then O + 258 else 0) := by
 unfold wPart asm
 rw [Nat.add_mul]
 cases flex with
 | false => simp only [Bool.false_eq_true, if_false, cond_false]; omega
 | true =>
  simp only [if_true, cond_true, List.length_append, flat_tagsB]
  have h1 := tagsC_range (fun k => wTs ver true fs 0 k t) M (known fs) hT
  have h2 : allTags ver true fs t = (List.range (known fs)).flatMap (fun k => wTs ver true fs 0 k t) ++ others fs t.u := rfl
  rw [h2, tagsB_append, List.length_append]
  have h3 := uvar_few ((List.range (known fs)).flatMap (fun k => wTs ver true fs 0 k t)).length (others fs t.u).length (others_few fs t.u)
  have h4 := tagsC_eq ((List.range (known fs)).flatMap (fun k => wTs ver true fs 0 k t))
  omega
theorem part_le (ver : Int) (flex : Bool) (fs : List Fld) (t : Tree) (M O : Nat) (hF : (wFs ver flex fs 0 t).length ≤ M) (hT : ∀ k, tagsC (wTs ver flex fs 0 k t) ≤ M) (hO : tagsB (others fs t.u) ≤ O) :
  (wPart ver flex fs t).length ≤ (1 + known fs) * M + (O + 258) := Nat.le_trans (part_leF ver flex fs t M O hF hT hO) (by cases flex <;> simp)
def tagged (tag : Int) (n : Nat) : Nat := if tag < 0 then n else n + n + tag.toNat + 3
theorem le_tagged (tag : Int) (n : Nat) : n ≤ tagged tag n := by unfold tagged; split <;> omega
theorem tag_le (k : Nat) (b : List UInt8) (n : Nat) (h : b.length ≤ n) : 1 + (wTag k b).length ≤ n + n + k + 3 := by
 have h1 := uvar_le1 k
 have h2 := uvar_le1 b.length
 simp only [wTag, List.length_append]; omega
def oF (fl : Bool) : Nat := bif fl then 1074069751 else 0
mutual
def Fld.most (fl : Bool) : Fld → Nat
 | .mk kind _ _ _ _ _ of sub =>
  if kind = 11 then 8 + 32767 * (if of = 10 then (1 + known sub) * Fld.mosts fl sub + oF fl else 32783)
  else if kind = 10 then 1 + ((1 + known sub) * Fld.mosts fl sub + oF fl) else 32783
def Fld.mosts (fl : Bool) : List Fld → Nat
 | [] => 0
 | f :: fs => tagged f.tag (f.most fl) + Fld.mosts fl fs
end
theorem wVal_part (flex null : Bool) (p : Tree → List UInt8) (t : Tree) : wVal 10 flex null p t = p t := by simp [wVal]
theorem things_few (l : List Tree) : (things l).length ≤ 32767 := by unfold things Most; rw [List.length_take]; omega
mutual
def Fld.price : Fld → Nat
 | .mk _ _ _ _ _ _ _ sub => ((1 + known sub) * Fld.prices sub + 272) + 24 + 9
def Fld.prices : List Fld → Nat
 | [] => 0
 | f :: fs => tagged f.tag f.price + Fld.prices fs
end
def partPrice (fs : List Fld) : Nat := (1 + known fs) * Fld.prices fs + 272
theorem tagged_mul (tag : Int) (n k w : Nat) (ht : tag = (k : Int)) (hw : 1 ≤ w) : n * w + n * w + k + 3 ≤ tagged tag n * w := by
 unfold tagged
 rw [if_neg (by omega)]
 have : tag.toNat = k := by omega
 rw [this, Nat.add_mul, Nat.add_mul, Nat.add_mul]
 have : k * 1 ≤ k * w := Nat.mul_le_mul_left _ hw
 omega
mutual
theorem wField_price (ver : Int) (flex : Bool) : ∀ (f : Fld) (t : Tree), t.ok → (wField ver flex f t).length ≤ f.price * t.wt
 | .mk kind fr upto nul tag df of sub, t, ht => by
  have hw := t.wt_pos
  have hp : ∀ x : Tree, x.ok → (wPart ver flex sub x).length ≤ ((1 + known sub) * Fld.prices sub + 272) * x.wt := fun x hx => by
   have hx1 := x.wt_pos
   have := part_le ver flex sub x (Fld.prices sub * x.wt) (14 * x.wt) (wFs_price ver flex sub 0 x hx) (fun k => wTs_price ver flex sub 0 k x hx) (others_le sub x hx)
   rw [Nat.add_mul, Nat.mul_assoc]
   omega
  rw [wField_mk ver flex kind fr upto nul tag df of sub t _ rfl]
  simp only [Fld.price]
  generalize (1 + known sub) * Fld.prices sub + 272 = c at hp ⊢
  have hc : (c + 24 + 9) * t.wt = (c + 24) * t.wt + 9 * t.wt := Nat.add_mul _ _ _
  by_cases h11 : kind = 11
  ·simp only [h11, if_true]
   generalize (t.nul && decide (0 ≤ nul) && decide (nul ≤ ver)) = null
   have hlen : (if null then ([] : List Tree) else things t.l).length ≤ 32767 := by
    cases null
    ·exact things_few t.l
    ·simp
   have hmem : ∀ x ∈ (if null then ([] : List Tree) else things t.l), x.ok := by
    intro x hx
    cases null
    ·exact ht.l x (List.mem_of_mem_take hx)
    ·simp at hx
   have hwt : Tree.wts (if null then ([] : List Tree) else things t.l) ≤ t.wt := by
    have := l_wt t
    have := wts_take t.l Most
    cases null
    ·show Tree.wts (t.l.take Most) ≤ _; omega
    ·simp [Tree.wts]
   have h8 := counted_le flex null (if null then ([] : List Tree) else things t.l).length 4 (by omega) (by omega)
   rw [List.length_append]
   have h9 := things_le (wVal of flex false (wPart ver flex sub)) (c + 24) (if null then ([] : List Tree) else things t.l) (fun x hx => wVal_le of flex false _ x c (hp x (hmem x hx)))
   have h10 : (c + 24) * Tree.wts (if null then ([] : List Tree) else things t.l) ≤ (c + 24) * t.wt := Nat.mul_le_mul_left _ hwt
   omega
  ·simp only [h11, if_false]
   by_cases h10 : kind = 10
   ·simp only [h10, true_and]
    have h1 := hp t ht
    have h2 : c * t.wt ≤ (c + 24) * t.wt := Nat.mul_le_mul_right _ (by omega)
    split
    ·split
     ·rw [be_len]; omega
     ·rw [List.length_append, be_len]; omega
    ·rw [wVal_part]; omega
   ·simp only [h10, false_and, if_false]
    have := wVal_le kind flex (t.nul && decide (0 ≤ nul) && decide (nul ≤ ver)) (wPart ver flex sub) t c (hp t ht)
    omega
theorem wFs_price (ver : Int) (flex : Bool) : ∀ (fs : List Fld) (i : Nat) (t : Tree), t.ok → (wFs ver flex fs i t).length ≤ Fld.prices fs * t.wt
 | [], _, _, _ => by simp [wFs]
 | f :: fs, i, t, ht => by
  have h1 := wField_price ver flex f (att t i) (ht.at i)
  have h2 := wFs_price ver flex fs (i + 1) t ht
  have h3 : f.price * (att t i).wt ≤ tagged f.tag f.price * t.wt := Nat.mul_le_mul (le_tagged _ _) (att_wt t i)
  simp only [wFs, Fld.prices, List.length_append, Nat.add_mul]
  split
  ·omega
  ·simp only [List.length_nil]; omega
theorem wTs_price (ver : Int) (flex : Bool) : ∀ (fs : List Fld) (i k : Nat) (t : Tree), t.ok → tagsC (wTs ver flex fs i k t) ≤ Fld.prices fs * t.wt
 | [], _, _, _, _ => by simp [wTs, tagsC]
 | f :: fs, i, k, t, ht => by
  have h1 := wField_price ver flex f (att t i) (ht.at i)
  have h2 := wTs_price ver flex fs (i + 1) k t ht
  simp only [wTs, Fld.prices, tagsC_append, Nat.add_mul]
  split
  ·rename_i h
   have h0 : f.price * (att t i).wt ≤ f.price * t.wt := Nat.mul_le_mul_left _ (att_wt t i)
   have h3 := tag_le k (wField ver flex f (att t i)) (f.price * t.wt) (by omega)
   have h4 := tagged_mul f.tag f.price k t.wt h.1 t.wt_pos
   simp only [tagsC, List.map_cons, List.map_nil, List.sum_cons, List.sum_nil] at h2 ⊢; omega
  ·have : tagsC ([] : List (Nat × List UInt8)) = 0 := rfl
   omega
end
theorem wPart_price (ver : Int) (flex : Bool) (fs : List Fld) (t : Tree) (ht : t.ok) : (wPart ver flex fs t).length ≤ partPrice fs * t.wt := by
 have hx1 := t.wt_pos
 have := part_le ver flex fs t (Fld.prices fs * t.wt) (14 * t.wt) (wFs_price ver flex fs 0 t ht) (fun k => wTs_price ver flex fs 0 k t ht) (others_le fs t ht)
 unfold partPrice
 rw [Nat.add_mul, Nat.mul_assoc]
 omega
end Go.Proofs.YtgpnpfiafcakfaaGreat

namespace Go.Proofs.YtgpnpfiafcakfaaGreat
open Go Go.RowKit
theorem ti_u8 : isInt Tryz.prog 5 .u8 = true := by kernel_rfl
theorem ti_i64 : isInt Tryz.prog 3 .i64 = true := by kernel_rfl
theorem ti_i32 : isInt Tryz.prog 21 .i32 = true := by kernel_rfl
theorem ti_i16 : isInt Tryz.prog 45 .i16 = true := by kernel_rfl
theorem ti_u16 : isInt Tryz.prog 120 .u16 = true := by kernel_rfl
theorem ti_u32 : isInt Tryz.prog 62 .u32 = true := by kernel_rfl
theorem tb_bytes : byteSl Tryz.prog 22 5 = true := by kernel_rfl
theorem ts_str : (match Tryz.prog.underlying 9 with | some .string => true | _ => false) = true := by kernel_rfl
theorem ti_u64 : isInt Tryz.prog 104 .u64 = true := by kernel_rfl
theorem ti_l64 : isInt Tryz.prog 2 .i64 = true := by kernel_rfl
theorem fo_tree0 : fieldOff Tryz.prog 26 0 = some 0 := by kernel_rfl
theorem fo_tree3 : fieldOff Tryz.prog 26 3 = some 3 := by kernel_rfl
theorem fo_tree4 : fieldOff Tryz.prog 26 4 = some 4 := by kernel_rfl
theorem fo_fld0 : fieldOff Tryz.prog 50 0 = some 0 := by kernel_rfl
theorem fo_fld4 : fieldOff Tryz.prog 50 4 = some 4 := by kernel_rfl
theorem fo_fld5 : fieldOff Tryz.prog 50 5 = some 5 := by kernel_rfl
theorem fo_fld6 : fieldOff Tryz.prog 50 6 = some 6 := by kernel_rfl
theorem fo_fld7 : fieldOff Tryz.prog 50 7 = some 7 := by kernel_rfl
theorem fo_tag0 : fieldOff Tryz.prog 64 0 = some 0 := by kernel_rfl
theorem fo_tag1 : fieldOff Tryz.prog 64 1 = some 1 := by kernel_rfl
theorem fo_msg0 : fieldOff Tryz.prog 31 0 = some 0 := by kernel_rfl
theorem to_int : tyOne Tryz.prog 3 = true := by kernel_rfl
theorem to_bool : tyOne Tryz.prog 4 = true := by kernel_rfl
theorem to_str : tyOne Tryz.prog 9 = true := by kernel_rfl
theorem to_bytes : tyOne Tryz.prog 22 = true := by kernel_rfl
theorem to_trees : tyOne Tryz.prog 23 = true := by kernel_rfl
theorem to_tags : tyOne Tryz.prog 24 = true := by kernel_rfl
theorem to_flds : tyOne Tryz.prog 29 = true := by kernel_rfl
theorem to_u32 : tyOne Tryz.prog 62 = true := by kernel_rfl
theorem to_i64 : tyOne Tryz.prog 2 = true := by kernel_rfl
theorem to_u8 : tyOne Tryz.prog 5 = true := by kernel_rfl
theorem ta_tree : tyAgg Tryz.prog 26 = some 5 := by kernel_rfl
theorem tz_tree : (Tryz.prog.info? 26).map (·.size) = some 5 := by kernel_rfl
theorem ta_fld : tyAgg Tryz.prog 50 = some 8 := by kernel_rfl
theorem tz_fld : (Tryz.prog.info? 50).map (·.size) = some 8 := by kernel_rfl
theorem ta_tag : tyAgg Tryz.prog 64 = some 2 := by kernel_rfl
theorem tz_tag : (Tryz.prog.info? 64).map (·.size) = some 2 := by kernel_rfl
theorem ta_msg : tyAgg Tryz.prog 31 = some 2 := by kernel_rfl
theorem tz_msg : (Tryz.prog.info? 31).map (·.size) = some 2 := by kernel_rfl
theorem es_bytes : elemSize Tryz.prog 22 = some 1 := by kernel_rfl
theorem el_bytes : (elemSize Tryz.prog 22).isSome = true := by kernel_rfl
theorem es_trees : elemSize Tryz.prog 23 = some 5 := by kernel_rfl
theorem el_trees : (elemSize Tryz.prog 23).isSome = true := by kernel_rfl
theorem es_tags : elemSize Tryz.prog 24 = some 2 := by kernel_rfl
theorem el_tags : (elemSize Tryz.prog 24).isSome = true := by kernel_rfl
theorem es_flds : elemSize Tryz.prog 29 = some 8 := by kernel_rfl
theorem mixed : Tryz.prog.follows .mixedOrders = true := by kernel_rfl
theorem zv_tree (w : World) : (zeroValue 26).run Tryz.prog w = .ok (.agg #[.int .i64 0, .slice none 0 0, .bool false, .slice none 0 0, .slice none 0 0]) w := by kernel_rfl
theorem zv_fld (w : World) : (zeroValue 50).run Tryz.prog w = .ok (.agg #[.int .i64 0, .int .i64 0, .int .i64 0, .int .i64 0, .int .i64 0, .int .i64 0, .int .i64 0, .slice none 0 0]) w := by kernel_rfl
theorem zv_tag (w : World) : (zeroValue 64).run Tryz.prog w = .ok (.agg #[.int .u32 0, .slice none 0 0]) w := by kernel_rfl
def tbl : Tbl := ⟨[(26, 0, 0), (26, 1, 1), (26, 2, 2), (26, 3, 3), (26, 4, 4), (50, 0, 0), (50, 1, 1), (50, 2, 2), (50, 3, 3), (50, 4, 4), (50, 5, 5), (50, 6, 6), (50, 7, 7), (64, 0, 0), (64, 1, 1), (31, 0, 0), (31, 1, 1)], [22, 23, 24, 29]⟩
theorem tbl_ok : tbl.ok Tryz.prog = true := by kernel_rfl
theorem ws {ops : Array Oper} {Q : Exit → Act → World → Prop} {N : Nat} {rest : List Oper} {L : Sl} {w : World} {d : Nat} {ty : TypeId} {pos : String} {aft : Array Edge} {o : Op} {v : Value}
  (hs : stepOp tbl L o = some v) (hd : Nat.blt d N = true) (h : WL rest Tryz.prog ops Q N ((d, v) :: L) w) : WL (⟨some d, o, ty, pos, aft, none⟩ :: rest) Tryz.prog ops Q N L w := wl_step tbl tbl_ok hs hd h
end Go.Proofs.YtgpnpfiafcakfaaGreat

namespace Go.Proofs.YtgpnpfiafcakfaaGreat
open Go Go.RowKit
def AppW (F : FuncId) (vs : List Value) (pre : World → Nat → Prop) (ys : List UInt8) : Prop :=
 ∀ (d : Value) (w : World) (B : Nat) (xs : List UInt8), pre w B → Own w B 5 d xs → B ≤ w.heap.size → xs.length + ys.length ≤ lim →
  Calls Tryz.prog F (d :: vs).toArray w fun e w' => ∃ d', e = .returned d' ∧ Own w' B 5 d' (xs ++ ys) ∧ Grew w w' d d'
def App (F : FuncId) (vs : List Value) (ys : List UInt8) : Prop := AppW F vs (fun _ _ => True) ys
theorem u32_bytes (u : Int) : [Value.int .u8 (IntKind.u8.wrap (u.fdiv (2 ^ (min (24 : Int).toNat IntKind.u32.bits)))), .int .u8 (IntKind.u8.wrap (u.fdiv (2 ^ (min (16 : Int).toNat IntKind.u32.bits)))), .int .u8 (IntKind.u8.wrap (u.fdiv (2 ^ (min (8 : Int).toNat IntKind.u32.bits)))), .int .u8 (IntKind.u8.wrap u)] = bv (be 4 u) := by
 simp only [wrap_u8, be, bv, List.map_cons, List.map_nil]
 simp [IntKind.bits, Int.fdiv_eq_ediv_of_nonneg]
theorem u16_bytes (u : Int) : [Value.int .u8 (IntKind.u8.wrap (u.fdiv (2 ^ (min (8 : Int).toNat IntKind.u16.bits)))), .int .u8 (IntKind.u8.wrap u)] = bv (be 2 u) := by
 simp only [wrap_u8, be, bv, List.map_cons, List.map_nil]
 simp [IntKind.bits, Int.fdiv_eq_ediv_of_nonneg]
theorem u64_bytes (u : Int) : [Value.int .u8 (IntKind.u8.wrap (u.fdiv (2 ^ (min (56 : Int).toNat IntKind.u64.bits)))), .int .u8 (IntKind.u8.wrap (u.fdiv (2 ^ (min (48 : Int).toNat IntKind.u64.bits)))), .int .u8 (IntKind.u8.wrap (u.fdiv (2 ^ (min (40 : Int).toNat IntKind.u64.bits)))), .int .u8 (IntKind.u8.wrap (u.fdiv (2 ^ (min (32 : Int).toNat IntKind.u64.bits)))),
  .int .u8 (IntKind.u8.wrap (u.fdiv (2 ^ (min (24 : Int).toNat IntKind.u64.bits)))), .int .u8 (IntKind.u8.wrap (u.fdiv (2 ^ (min (16 : Int).toNat IntKind.u64.bits)))), .int .u8 (IntKind.u8.wrap (u.fdiv (2 ^ (min (8 : Int).toNat IntKind.u64.bits)))), .int .u8 (IntKind.u8.wrap u)] = bv (be 8 u) := by
 simp only [wrap_u8, be, bv, List.map_cons, List.map_nil]
 simp [IntKind.bits, Int.fdiv_eq_ediv_of_nonneg]
section
set_option maxRecDepth 100000
theorem appendUint32 (u : Int) : App 57 [.int .u32 u] (be 4 u) := by
 intro d w B xs _ hown hB hlim
 refine enter Tryz.func57 rfl Tryz.ntmps57 rfl ?_
 refine wc_seq (wc_region (wl_assign rfl rfl (wl_nil (qk_thn ?_))))
 refine wc_seq (wc_region ?_)
 repeat (first
  | refine wl_move rfl rfl ?_
  | refine wl_shr rfl rfl rfl rfl ?_
  | refine wl_conv .u8 rfl (by kernel_rfl) (by kernel_rfl) rfl rfl ?_)
 refine wl_appLit (by kernel_rfl) rfl (u32_bytes u) rfl rfl rfl rfl rfl hown hB hlim (fun d' w' ho hg => ?_)
 refine wl_assign rfl rfl (wl_nil (qk_thn ?_))
 exact wc_ret (qk_ret1 rfl rfl ⟨d', rfl, ho, hg⟩)
theorem appendUint16 (u : Int) : App 67 [.int .u16 u] (be 2 u) := by
 intro d w B xs _ hown hB hlim
 refine enter Tryz.func67 rfl Tryz.ntmps67 rfl ?_
 refine wc_seq (wc_region (wl_assign rfl rfl (wl_nil (qk_thn ?_))))
 refine wc_seq (wc_region ?_)
 repeat (first
  | refine wl_move rfl rfl ?_
  | refine wl_shr rfl rfl rfl rfl ?_
  | refine wl_conv .u8 rfl (by kernel_rfl) (by kernel_rfl) rfl rfl ?_)
 refine wl_appLit (by kernel_rfl) rfl (u16_bytes u) rfl rfl rfl rfl rfl hown hB hlim (fun d' w' ho hg => ?_)
 refine wl_assign rfl rfl (wl_nil (qk_thn ?_))
 exact wc_ret (qk_ret1 rfl rfl ⟨d', rfl, ho, hg⟩)
theorem appendUint64 (u : Int) : App 58 [.int .u64 u] (be 8 u) := by
 intro d w B xs _ hown hB hlim
 refine enter Tryz.func58 rfl Tryz.ntmps58 rfl ?_
 refine wc_seq (wc_region (wl_assign rfl rfl (wl_nil (qk_thn ?_))))
 refine wc_seq (wc_region ?_)
 repeat (first | refine wl_move rfl rfl ?_ | refine wl_shr rfl rfl rfl rfl ?_ | refine wl_conv .u8 rfl (by kernel_rfl) (by kernel_rfl) rfl rfl ?_)
 refine wl_appLit (by kernel_rfl) rfl (u64_bytes u) rfl rfl rfl rfl rfl hown hB hlim (fun d' w' ho hg => ?_)
 refine wl_assign rfl rfl (wl_nil (qk_thn ?_))
 exact wc_ret (qk_ret1 rfl rfl ⟨d', rfl, ho, hg⟩)
theorem appendInt32 (u : Int) : App 34 [.int .i32 u] (be 4 u) := by
 intro d w B xs _ hown hB hlim
 refine enter Tryz.func34 rfl Tryz.ntmps34 rfl ?_
 refine wc_seq (wc_region (wl_assign rfl rfl (wl_nil (qk_thn ?_))))
 refine wc_seq (wc_region ?_)
 repeat (first
  | refine wl_move rfl rfl ?_
  | refine wl_conv .u32 rfl (by kernel_rfl) (by kernel_rfl) rfl rfl ?_)
 have hb : be 4 (IntKind.u32.wrap u) = be 4 u := by rw [IntKind.wrap_u32]; exact be_mod 4 32 u (by omega)
 refine wl_call rfl (by kernel_rfl) rfl ((appendUint32 (IntKind.u32.wrap u) d w B xs trivial hown hB (by rw [hb]; exact hlim)).mono ?_)
 rintro e w' ⟨d', rfl, ho, hg⟩
 rw [hb] at ho
 refine ⟨d', rfl, wl_assign rfl rfl (wl_nil (qk_thn ?_))⟩
 exact wc_ret (qk_ret1 rfl rfl ⟨d', rfl, ho, hg⟩)
end
end Go.Proofs.YtgpnpfiafcakfaaGreat
