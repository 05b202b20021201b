/- A part of the proof of FnUnsafeUpdateRaftVoterResponseCardSaid: what its texts prove stands at the head of each. Conditions: those that each theorem names. -/
import Derived.Test.YtoncnffdlejbaaaDoorPartB
import Derived.Test.YtoncnffdlejbaaaDoorPartA
import Derived.Deep.LoopGhost
import Derived.Laws.CopyRow
import Derived.Laws.OwnMore
set_option linter.all false
namespace Go.Proofs.YtoncnffdlejbaaaDoor
open Go Go.RowKit
structure Fr (rb : Nat) (it it' : Wi) (R R' : List Value) (w w' : World) : Prop where
 b : it'.b = it.b
 lo : it'.lo = it.lo
 pre : it'.pre = it.pre
 post : it'.post = it.post
 e : it'.e = it.e
 chg : Chg (fun j => j = rb ∨ j = it.b ∨ it.lo ≤ j) w w'
 more : ∃ X, R' = R ++ X
theorem Fr.refl (rb : Nat) (it : Wi) (R : List Value) (w : World) : Fr rb it it R R w w := ⟨rfl, rfl, rfl, rfl, rfl, Chg.refl _ _, [], by simp⟩
theorem Fr.trans {rb : Nat} {x y z : Wi} {R R' R'' : List Value} {w w' w'' : World} (h : Fr rb x y R R' w w') (k : Fr rb y z R' R'' w' w'') : Fr rb x z R R'' w w'' := by
 obtain ⟨X, hX⟩ := h.more
 obtain ⟨Y, hY⟩ := k.more
 refine ⟨k.b.trans h.b, k.lo.trans h.lo, k.pre.trans h.pre, k.post.trans h.post, k.e.trans h.e, h.chg.trans (k.chg.wide (fun j hj => by rw [h.b, h.lo] at hj; exact hj)), X ++ Y, by rw [hY, hX, List.append_assoc]⟩
section
variable {P : Program} {K : Kr} {N g rb sb : Nat} {ev : Value} {k : Nat} {rows : List (Nat × Nat × Nat)} {zs : List (Nat × List Value)} {S : RS} {Ad : List (Nat × Nat)} {R : List Value} {I : List Int} {it : Wi} {sst st0 st : Option (List UInt8)} {a : Act} {w : World}
theorem KnW.know {A : WA} (h : KnW N rb a A Ad R I) {t : Nat} {s : Wd} (e : denW rb Ad R I s = some (gt a t)) : KnW N rb a ((t, s) :: A) Ad R I := by
 refine ⟨h.size, h.defers, fun u s' e' => ?_⟩
 simp only [lkW] at e'
 cases hb : Nat.beq t u with
 | true => rw [hb] at e'; simp at e'; subst e'; rw [← beq_out hb]; exact e
 | false => rw [hb] at e'; exact h.at_ u s' e'
theorem RAt.next (H : RAt N g rb sb ev k rows zs S Ad R I it sst st0 st a w) {A : WA} {t : Nat} {h : Hi} {pd : Pd} {zs' : List (Nat × List Value)} {v : Value} {w' : World} {a' : Act} (hc : Chg (fun _ => False) w w') (hv : HiV R v h) (hl : LastV ev st v h) (hkn : KnW N rb a' A Ad R I) (hgt : gt a' t = v)
  (hpd : PdOk sb it.lo w' (R ++ [v]) it.ds it.cs zs' st0 st pd) : RAt N g rb sb ev k rows zs' { (({ S with A := A } : RS).new t h) with pd := pd } Ad (R ++ [v]) I it sst st0 st a' w' := by
 have hs : ∀ j : Nat, False → j < it.lo ∧ j ≠ sb := fun j h => h.elim
 refine ⟨?_, H.ho.give hv, last_give H.ho.1 hl, H.ad, H.lens, ?_, H.box.chg hc id, Dk.up H.ds hc hs, H.cl, H.sh, H.cells, H.rdr.chg hc id id, hpd, H.fresh, H.rel, ⟨H.lo.1, H.lo.2.1, H.lo.2.2.1, Nat.le_trans H.lo.2.2.2 hc.size⟩, H.ne, ?_⟩
 ·have := (hkn.more [v]).know (t := t) (s := .res R.length) (by simp [denW, hgt])
  rw [H.ho.1] at this
  exact this
 ·intro q rest hq hk
  obtain ⟨n, cap, j, h1, h2⟩ := H.row q rest hq hk
  exact ⟨n, cap, j, get_more h1, h2⟩
 ·refine ⟨?_, H.gl.2⟩
  have h1 := H.gl.1
  have hg : w'.heap[g]? = w.heap[g]? := hc.block g (by have := H.lo.2.2.2; have := H.gl.2.2.1; omega) id
  simp only [World.cell?] at h1 ⊢
  rw [hg]; exact h1
theorem chg_alloc (w : World) (o : Obj) (S : Nat → Prop) : Chg S w (w.alloc o) := Chg.grown0 (grown_alloc w o)
theorem chg_drew (w : World) (S : Nat → Prop) : Chg S w w.drew := Chg.grown0 (grown_drew w none)
def Bad (N g rb : Nat) (ev : Value) (rs : Nat) (it : Wi) (w : World) (a' : Act) (w' : World) : Prop := a'.defers = [] ∧ gt a' rs = ev ∧ Chg (fun j => j = rb ∨ j = it.b ∨ it.lo ≤ j) w w' ∧ a'.tmps.size = N ∧ w'.cell? ⟨g, 0, none⟩ = some ev
end
end Go.Proofs.YtoncnffdlejbaaaDoor

namespace Go.Proofs.YtoncnffdlejbaaaDoor
open Go Go.RowKit
section
variable {P : Program} {ops : Array Oper} {Q : Exit → Act → World → Prop} {N : Nat} {rest : List Oper} {L : Sl} {w : World} {d : Nat} {ty : TypeId} {pos : String} {aft : Array Edge}
end
end Go.Proofs.YtoncnffdlejbaaaDoor

namespace Go.Proofs.YtoncnffdlejbaaaDoor
open Go Go.RowKit
section
variable {P : Program} {K : Kr} {N rs : Nat}
end
end Go.Proofs.YtoncnffdlejbaaaDoor

namespace Go.Proofs.YtoncnffdlejbaaaDoor
open Go Go.RowKit
section
variable {P : Program} {K : Kr} {N g rb sb : Nat} {ev : Value} {k : Nat} {rows : List (Nat × Nat × Nat)} {zs : List (Nat × List Value)} {S : RS} {Ad : List (Nat × Nat)} {R : List Value} {I : List Int} {it : Wi} {sst st0 st : Option (List UInt8)} {a : Act} {w : World}
end
end Go.Proofs.YtoncnffdlejbaaaDoor

namespace Go.Proofs.YtoncnffdlejbaaaDoor
open Go Go.RowKit
theorem rdRow_snoc (body : List Ra) (dfl : List D) : ∀ (n : Nat) (s : List UInt8), rdRow body dfl (n + 1) s = (rdRow body dfl n s).bind fun x => (rdAs body dfl x.2).map fun y => (x.1 ++ [y.1], y.2)
 | 0, s => by
  simp only [rdRow, Option.bind_some]
  cases rdAs body dfl s <;> simp
 | n + 1, s => by
  rw [rdRow]
  cases h : rdAs body dfl s with
  | none => rw [rdRow, h]; rfl
  | some x =>
   simp only [Option.bind_some]
   rw [rdRow_snoc body dfl n x.2, rdRow, h]
   simp only [Option.bind_some]
   cases rdRow body dfl n x.2 with
   | none => rfl
   | some y =>
    simp only [Option.bind_some, Option.map_some]
    cases rdAs body dfl y.2 <;> simp
def ItR (body : List Ra) (dfl : List D) (i : Nat) (s : List UInt8) (dss : List (List D)) (st : Option (List UInt8)) : Prop := match rdRow body dfl i s with
 | some x => st = some x.2 ∧ dss = x.1
 | none => st = none
theorem ItR.step {body : List Ra} {dfl : List Value} {i : Nat} {s : List UInt8} {dss : List (List D)} {st st' : Option (List UInt8)} {ds : List D} (h : ItR body (litsD dfl) i s dss st) (k : OutR body (litsD dfl) st ds st') : ItR body (litsD dfl) (i + 1) s (dss ++ [ds]) st' := by
 unfold ItR at *
 rw [rdRow_snoc]
 have k2 := k.2
 cases hx : rdRow body (litsD dfl) i s with
 | none =>
  rw [hx] at h
  simp only [] at h
  subst h
  exact k2
 | some x =>
  rw [hx] at h
  obtain ⟨rfl, rfl⟩ := h
  simp only [] at k2
  simp only [Option.bind_some]
  cases hy : rdAs body (litsD dfl) x.2 with
  | none => rw [hy] at k2; exact k2
  | some y =>
   rw [hy] at k2
   obtain ⟨rfl, rfl⟩ := k2
   exact ⟨rfl, rfl⟩
section
variable {P : Program} {K : Kr} {N g rb sb : Nat} {ev : Value} {k : Nat} {rows : List (Nat × Nat × Nat)} {zs : List (Nat × List Value)} {S : RS} {Ad : List (Nat × Nat)} {R : List Value} {I : List Int} {it : Wi} {sst st0 st : Option (List UInt8)} {a : Act} {w : World}
theorem denW_wide {s : Wd} {v : Value} (Ad' : List (Nat × Nat)) (R' : List Value) (I' : List Int) (h : denW rb Ad R I s = some v) : denW rb (Ad ++ Ad') (R ++ R') (I ++ I') s = some v := by
 cases s with
 | val v => exact h
 | rdr => exact h
 | at_ k o =>
  simp only [denW, Option.map_eq_some_iff] at h ⊢
  obtain ⟨p, hp, e⟩ := h
  exact ⟨p, get_more hp, e⟩
 | res n => exact get_more h
 | idx m =>
  simp only [denW, Option.map_eq_some_iff] at h ⊢
  obtain ⟨p, hp, e⟩ := h
  exact ⟨p, get_more hp, e⟩
theorem KnW.wide {A : WA} (h : KnW N rb a A Ad R I) (Ad' : List (Nat × Nat)) (R' : List Value) (I' : List Int) : KnW N rb a A (Ad ++ Ad') (R ++ R') (I ++ I') := ⟨h.size, h.defers, fun t s e => denW_wide Ad' R' I' (h.at_ t s e)⟩
end
end Go.Proofs.YtoncnffdlejbaaaDoor

namespace Go.Proofs.YtoncnffdlejbaaaDoor
open Go Go.RowKit
section
variable {P : Program} {K : Kr} {N g rb sb : Nat} {ev : Value} {k : Nat} {rows : List (Nat × Nat × Nat)} {zs : List (Nat × List Value)} {S : RS} {Ad : List (Nat × Nat)} {R : List Value} {I : List Int} {it : Wi} {sst st0 st : Option (List UInt8)} {a : Act} {w : World}
end
end Go.Proofs.YtoncnffdlejbaaaDoor

namespace Go.Proofs.YtoncnffdlejbaaaDoor
open Go Go.RowKit
section
variable {P : Program} {K : Kr} {N g rb sb : Nat} {ev : Value} {k : Nat} {rows : List (Nat × Nat × Nat)} {zs : List (Nat × List Value)} {S : RS} {Ad : List (Nat × Nat)} {R : List Value} {I : List Int} {it : Wi} {sst st0 st : Option (List UInt8)} {a : Act} {w : World}
end
end Go.Proofs.YtoncnffdlejbaaaDoor

namespace Go.Proofs.YtoncnffdlejbaaaDoor
open Go Go.RowKit
theorem Bad.wide {N g rb rs : Nat} {ev : Value} {it it' : Wi} {R R' : List Value} {w w' : World} (f : Fr rb it it' R R' w w') {a2 : Act} {w2 : World} (h : Bad N g rb ev rs it' w' a2 w2) : Bad N g rb ev rs it w a2 w2 := by
 obtain ⟨b1, b2, b3, b4, b5⟩ := h
 exact ⟨b1, b2, f.chg.trans (b3.wide (fun j hj => by rw [f.b, f.lo] at hj; exact hj)), b4, b5⟩
section
variable {P : Program} {K : Kr} {N g rb sb : Nat} {ev : Value}
end
end Go.Proofs.YtoncnffdlejbaaaDoor

namespace Go.Proofs.YtoncnffdlejbaaaDoor
open Go Go.RowKit
structure Hd where
 rs : Nat
 x : Nat
 y : Nat
 f : Nat
 u : Nat
 b : Nat
 r : Nat
 rest : Code
structure KrTy (P : Program) (K : Kr) : Prop where
 built : ∀ a n c, P.built K.rty [(0, .slice a n c)] = some #[.slice a n c, .bool false]
 zero : ∀ w : World, (zeroValue K.rty).run P w = .ok (.agg #[.slice none 0 0, .bool false]) w
 size : sizeIs P K.rty 2 = true
def SrcAt (w : World) (sb : Nat) (v : Value) (s : List UInt8) : Prop := s.length ≤ srcLim ∧ ((v = .slice none 0 0 ∧ s = [] ∧ sb = 0) ∨ ∃ o c, v = .slice (some ⟨sb, o, none⟩) s.length c ∧ s.length ≤ c ∧ CellsAt w sb o (bv s) ∧ sb ≠ 0)
section
variable {P : Program} {K : Kr} {g : Nat} {ev : Value} {w : World}
end
end Go.Proofs.YtoncnffdlejbaaaDoor

namespace Go.Proofs.YtoncnffdlejbaaaDoor
open Go Go.RowKit
def SrcV (w : World) (sb : Nat) (v : Value) (s : List UInt8) : Prop := (v = .slice none 0 0 ∧ s = []) ∨ ∃ o c, v = .slice (some ⟨sb, o, none⟩) s.length c ∧ s.length ≤ c ∧ CellsAt w sb o (bv s) ∧ sb ≠ 0
theorem Rdr.view {w : World} {rb sb : Nat} {st : Option (List UInt8)} (h : Rdr w rb sb st) : ∃ a c s e, Box w rb [.slice a s.length c, .bool st.isNone] e ∧ s.length ≤ c ∧ s.length ≤ srcLim ∧ SrcV w sb (.slice a s.length c) s ∧ ((st = none ∧ s = [] ∧ a = none ∧ c = 0) ∨ st = some s) := by
 cases st with
 | none =>
  obtain ⟨e, h⟩ := h
  exact ⟨none, 0, [], e, h, Nat.le_refl _, Nat.zero_le _, .inl ⟨rfl, rfl⟩, .inl ⟨rfl, rfl, rfl, rfl⟩⟩
 | some s =>
  obtain ⟨v, e, hb, hl, hv, _⟩ := h
  rcases hv with ⟨rfl, rfl⟩ | ⟨o, c, rfl, hle, hc⟩
  ·exact ⟨none, 0, [], e, hb, Nat.le_refl _, Nat.zero_le _, .inl ⟨rfl, rfl⟩, .inr rfl⟩
  ·exact ⟨some ⟨sb, o, none⟩, c, s, e, hb, hle, hl, .inr ⟨o, c, rfl, hle, hc⟩, .inr rfl⟩
theorem SrcV.rdr {w : World} {rb sb : Nat} {v : Value} {s : List UInt8} {e : TypeId} (h : SrcV w sb v s) (hb : Box w rb [v, .bool false] e) (hn : sb ≠ 0 → v ≠ .slice none 0 0) (hl : s.length ≤ srcLim) : Rdr w rb sb (some s) := ⟨v, e, hb, hl, h, hn⟩
theorem SrcV.chg {S : Nat → Prop} {w w' : World} {sb : Nat} {v : Value} {s : List UInt8} (h : SrcV w sb v s) (hc : Chg S w w') (hs : ¬ S sb) : SrcV w' sb v s := by
 rcases h with h | ⟨o, c, e, hle, hcs, hz⟩
 ·exact .inl h
 ·exact .inr ⟨o, c, e, hle, hcs.chg hc hs, hz⟩
theorem nn_drop {c m n k : Nat} {p : Addr} : Value.slice (if c = m then some p else (some p).map (·.add m)) n k ≠ .slice none 0 0 := by split <;> simp
theorem Rdr.nn {w : World} {rb sb : Nat} {s : List UInt8} {v x : Value} {e : TypeId} (h : Rdr w rb sb (some s)) (hb : Box w rb [v, x] e) (hz : sb ≠ 0) : v ≠ .slice none 0 0 := by
 obtain ⟨v', e', hb', _, _, hn⟩ := h
 have h1 := hb'.cell0 (i := 0) rfl
 have h2 := hb.cell0 (i := 0) rfl
 rw [h1] at h2
 simp only [Option.some.injEq] at h2
 rw [← h2]; exact hn hz
theorem SrcV.nz {w : World} {sb : Nat} {v : Value} {s : List UInt8} (h : SrcV w sb v s) (hs : s ≠ []) : sb ≠ 0 := by
 rcases h with ⟨_, h⟩ | ⟨_, _, _, _, _, h⟩
 ·exact absurd h hs
 ·exact h
theorem Rdr.nz {w : World} {rb sb : Nat} {s : List UInt8} (h : Rdr w rb sb (some s)) (hs : s ≠ []) : sb ≠ 0 := by
 obtain ⟨v, e, _, _, h, _⟩ := h
 exact SrcV.nz h hs
theorem Rdr.nn_drop {w : World} {rb sb m : Nat} {s : List UInt8} {a : Option Addr} {n c k l : Nat} {x : Value} {e : TypeId} (h : Rdr w rb sb (some s)) (hb : Box w rb [.slice a n c, x] e) (hv : SrcV w sb (.slice a n c) s) (hz : sb ≠ 0) : Value.slice (if c = m then a else a.map (·.add m)) l k ≠ .slice none 0 0 := by
 have h1 := h.nn hb hz
 cases a with
 | none =>
  exfalso
  rcases hv with ⟨e, _⟩ | ⟨o, c', e, _⟩
  ·exact h1 e
  ·simp at e
 | some p => exact _root_.Go.Proofs.YtoncnffdlejbaaaDoor.nn_drop
theorem Rdr.nn_take {w : World} {rb sb : Nat} {s : List UInt8} {a : Option Addr} {n c k l : Nat} {x : Value} {e : TypeId} (h : Rdr w rb sb (some s)) (hb : Box w rb [.slice a n c, x] e) (hv : SrcV w sb (.slice a n c) s) (hz : sb ≠ 0) : Value.slice a l k ≠ .slice none 0 0 := by
 have h1 := h.nn hb hz
 cases a with
 | none =>
  exfalso
  rcases hv with ⟨e, _⟩ | ⟨o, c', e, _⟩
  ·exact h1 e
  ·simp at e
 | some p => simp
theorem bv_take (s : List UInt8) (m : Nat) : bv (s.take m) = (bv s).take m := by simp [bv]
theorem bv_drop (s : List UInt8) (m : Nat) : bv (s.drop m) = (bv s).drop m := by simp [bv]
theorem bv_len (s : List UInt8) : (bv s).length = s.length := by simp [bv]
theorem SrcV.drop {w : World} {sb : Nat} {a : Option Addr} {c m : Nat} {s : List UInt8} (h : SrcV w sb (.slice a s.length c) s) (hm : m ≤ s.length) : SrcV w sb (.slice (if c = m then a else a.map (·.add m)) (s.length - m) (c - m)) (s.drop m) := by
 rcases h with ⟨e, rfl⟩ | ⟨o, c', e, hle, hcs, hz⟩
 ·simp only [Value.slice.injEq] at e
  obtain ⟨rfl, _, rfl⟩ := e
  simp only [List.length_nil, Nat.le_zero] at hm
  subst hm
  exact .inl ⟨by simp, rfl⟩
 ·simp only [Value.slice.injEq, true_and] at e
  obtain ⟨rfl, rfl⟩ := e
  have hcs' : CellsAt w sb (o + m) (bv (s.drop m)) := by
   have h1 : bv s = (bv s).take m ++ (bv s).drop m := (List.take_append_drop _ _).symm
   rw [h1] at hcs
   have := hcs.right
   rw [List.length_take, bv_len, Nat.min_eq_left hm, ← bv_drop] at this
   exact this
  by_cases hcm : c = m
  ·subst hcm
   have : s.drop c = [] := List.drop_eq_nil_of_le hle
   right
   refine ⟨o, 0, ?_, by simp [this], ?_, hz⟩
   ·simp only [if_true, Nat.sub_self, List.length_drop]
   ·rw [this]
    obtain ⟨arr, e, fz, h1, h2, h3⟩ := hcs
    exact ⟨arr, e, fz, h1, by simp [bv]; omega, fun i v hv => by simp [bv] at hv⟩
  ·right
   refine ⟨o + m, c - m, ?_, by simp; omega, hcs', hz⟩
   simp [hcm, Addr.add]
theorem SrcV.take {w : World} {sb : Nat} {a : Option Addr} {c m : Nat} {s : List UInt8} (h : SrcV w sb (.slice a s.length c) s) (hm : m ≤ s.length) : SrcV w sb (.slice a m m) (s.take m) := by
 rcases h with ⟨e, rfl⟩ | ⟨o, c', e, hle, hcs, hz⟩
 ·simp only [Value.slice.injEq] at e
  obtain ⟨rfl, _, rfl⟩ := e
  simp only [List.length_nil, Nat.le_zero] at hm
  subst hm
  exact .inl ⟨rfl, rfl⟩
 ·simp only [Value.slice.injEq, true_and] at e
  obtain ⟨rfl, rfl⟩ := e
  right
  have hl : (s.take m).length = m := by simp; omega
  refine ⟨o, m, by rw [hl], by rw [hl]; exact Nat.le_refl _, ?_, hz⟩
  have h1 : bv s = bv (s.take m) ++ (bv s).drop m := by rw [bv_take]; exact (List.take_append_drop _ _).symm
  rw [h1] at hcs
  exact hcs.left
theorem SrcV.cell {w : World} {sb : Nat} {a : Option Addr} {c i : Nat} {s : List UInt8} (h : SrcV w sb (.slice a s.length c) s) (hi : i < s.length) : ∃ o, a = some ⟨sb, o, none⟩ ∧ w.cell? ⟨sb, o + i * 1, none⟩ = some (.int .u8 s[i].toNat) := by
 rcases h with ⟨e, rfl⟩ | ⟨o, c', e, hle, hcs, hz⟩
 ·cases hi
 ·simp only [Value.slice.injEq, true_and] at e
  obtain ⟨rfl, rfl⟩ := e
  refine ⟨o, rfl, ?_⟩
  rw [Nat.mul_one]
  exact hcs.cell (by simp [bv, hi])
theorem SrcV.sq {w : World} {sb lo : Nat} {v : Value} {s : List UInt8} (h : SrcV w sb v s) (hs : sb < w.heap.size) : Rep (Dk sb lo w) w (.sq (s.map byteD)) [v] := by
 simp only [Rep, List.length_map]
 rcases h with ⟨rfl, rfl⟩ | ⟨o, c, rfl, hle, hcs, _⟩
 ·exact ⟨none, 0, rfl, Nat.le_refl _, .inl rfl⟩
 ·exact ⟨_, c, rfl, hle, .inr ⟨sb, o, bv s, rfl, ⟨.inl rfl, hs⟩, hcs, (reps_bytes s _).2 rfl⟩⟩
def RdC (P : Program) (f : Nat) (p : Rp) : Prop := ∀ (w : World) (rb sb lo : Nat) (st : Option (List UInt8)), Rdr w rb sb st → rb < lo → sb < lo → lo ≤ w.heap.size → rb ≠ sb →
  Calls P f #[.pointer (some ⟨rb, 0, none⟩)] w fun e w' => ∃ v nd st', e = .returned v ∧ Chg (· = rb) w w' ∧ Rdr w' rb sb st' ∧ Reps (Dk sb lo w') w' nd v.cells.toList ∧ (v.cells.toList.all fun v => v.oneCell') = true ∧ ((shR p).length = 1 → v.cells = #[v]) ∧ RdRel p st nd st'
def LenC (P : Program) (f : Nat) (c : Bool) : Prop := ∀ (w : World) (rb sb lo : Nat) (st : Option (List UInt8)), Rdr w rb sb st → rb < lo → sb < lo → lo ≤ w.heap.size → rb ≠ sb →
  Calls P f #[.pointer (some ⟨rb, 0, none⟩)] w fun e w' => ∃ l st', e = .returned (.int .i32 l) ∧ Chg (· = rb) w w' ∧ Rdr w' rb sb st' ∧ LenRel c st l st'
section
variable {P : Program} {ops : Array Oper} {Q : Exit → Act → World → Prop} {N : Nat} {rest : List Oper} {L : Sl} {w : World} {d : Nat} {ty : TypeId} {pos : String} {aft : Array Edge}
theorem wl_sliceLo {x y : Operand} {t : TypeId} {a : Option Addr} {n c m : Nat} {kk : IntKind} (hx : ev L x = some (.slice a n c)) (hy : ev L y = some (.int kk (m : Int))) (ht : elemSize P t = some 1) (hd : Nat.blt d N = true) (hm : m ≤ n)
  (h : WL rest P ops Q N ((d, .slice (if c = m then a else a.map (·.add m)) (n - m) (c - m)) :: L) w) : WL (⟨some d, .slice t x (some y) none none, ty, pos, aft, none⟩ :: rest) P ops Q N L w := by
 intro b k
 refine st_of (o := ⟨some d, .slice t x (some y) none none, ty, pos, aft, none⟩) (v := .slice (if c = m then a else a.map (·.add m)) (n - m) (c - m)) rfl ?_ (h _ (k.put _ hd))
 unfold elemSize at ht
 split at ht
 ·rename_i e he
  cases hie : P.info? e with
  | none => simp [hie] at ht
  | some inf =>
   simp only [hie, Option.map_some, Option.some.injEq] at ht
   simp only [execOp, k.eval hx, Option.map_some, Option.map_none, k.eval hy]
   simp [Instr.sliceAt, Instr.slice, run_underlying he, Instr.sliceBounds, Instr.sliceBound, asIntOf, sizeOf, typeInfo, hie, hm, ht]
 ·cases ht
theorem wl_slice3 {x y z : Operand} {t : TypeId} {a : Option Addr} {n c m : Nat} {kk kz : IntKind} (hx : ev L x = some (.slice a n c)) (hy : ev L y = some (.int kk (m : Int))) (hz : ev L z = some (.int kz (m : Int))) (ht : elemSize P t = some 1) (hd : Nat.blt d N = true) (hm : m ≤ c)
  (h : WL rest P ops Q N ((d, .slice a m m) :: L) w) : WL (⟨some d, .slice t x none (some y) (some z), ty, pos, aft, none⟩ :: rest) P ops Q N L w := by
 intro b k
 refine st_of (o := ⟨some d, .slice t x none (some y) (some z), ty, pos, aft, none⟩) (v := .slice a m m) rfl ?_ (h _ (k.put _ hd))
 unfold elemSize at ht
 split at ht
 ·rename_i e he
  cases hie : P.info? e with
  | none => simp [hie] at ht
  | some inf =>
   simp only [execOp, k.eval hx, Option.map_some, Option.map_none, k.eval hy, k.eval hz]
   cases a <;> simp [Instr.sliceAt, Instr.slice, run_underlying he, Instr.sliceBounds, Instr.sliceBound, asIntOf, sizeOf, typeInfo, hie, hm, Addr.add]
 ·cases ht
end
end Go.Proofs.YtoncnffdlejbaaaDoor

namespace Go.Proofs.YtoncnffdlejbaaaDoor
open Go Go.RowKit
def HoldV (ver kind nul : Int) (t : Tree) (d : D) : Prop :=
  if kind = 9 ∧ ¬ (0 ≤ nul ∧ nul ≤ ver) then d.isAgg = false ∧ shD d = [.sl] ∧ ∃ n, sliceOf d = some (n, t.s.map byteD) else d = valK kind nul t
def HoldS (ver nul : Int) (t : Tree) (Q : List D → Prop) (d : D) : Prop :=
  (0 ≤ nul ∧ t.nul = true ∧ d = .sl true []) ∨ (¬ (0 ≤ nul ∧ t.nul = true) ∧ d.isAgg = false ∧ shD d = [.sl] ∧ ∃ n els, sliceOf d = some (n, els) ∧ (0 ≤ nul → nul ≤ ver → isnOf d = some false) ∧ els.length = t.l.length ∧ Q els)
def HoldU (tg flex : Bool) (t : Tree) (b : List D) : Prop := if tg then (if flex then b = [tagsK t.u] else ∃ d, b = [d] ∧ shD d = [.mp]) else b = []
mutual
def HoldF (ver : Int) (tg flex : Bool) : Fld → Tree → List D → Prop
  | .mk kind _ _ nul _ _ of sub, t, ds =>
    if kind = 11 then ∃ d, ds = [d] ∧ HoldS ver nul t (fun els =>
      (if of = 10 then ∀ i, i < t.l.length → ∃ a b, els[i]? = some (.agg (a ++ b)) ∧ HoldFs ver tg flex sub 0 (att t i) a ∧ HoldU tg flex (att t i) b
       else els = t.l.map (valK of (-1)))) d
    else if kind = 10 then (if 0 ≤ nul then (t.nul = true ∧ ds = [.lit (.pointer none)]) ∨ (t.nul = false ∧ ∃ a b, ds = [.ptr (.agg (a ++ b))] ∧ HoldFs ver tg flex sub 0 t a ∧ HoldU tg flex t b)
      else ∃ a b, ds = a ++ b ∧ HoldFs ver tg flex sub 0 t a ∧ HoldU tg flex t b)
    else ∃ d, ds = [d] ∧ HoldV ver kind nul t d
def HoldFs (ver : Int) (tg flex : Bool) : List Fld → Nat → Tree → List D → Prop
  | [], _, _, ds => ds = []
  | f :: fs, i, t, ds => ∃ a b, ds = a ++ b ∧ shDs a = shF tg f ∧ pos a ∧ (f.has ver = true → HoldF ver tg flex f (att t i) a) ∧ HoldFs ver tg flex fs (i + 1) t b
end
def HoldP (ver : Int) (tg flex : Bool) (fs : List Fld) (t : Tree) (ds : List D) : Prop := ∃ a b, ds = a ++ b ∧ HoldFs ver tg flex fs 0 t a ∧ HoldU tg flex t b
theorem HoldU.sh {tg flex : Bool} {t : Tree} {b : List D} (h : HoldU tg flex t b) : shDs b = (if tg then [.mp] else []) ∧ pos b := by
  unfold HoldU at h
  cases tg with
  | false => simp at h; subst h; exact ⟨rfl, fun d hd => by cases hd⟩
  | true =>
    simp only [if_true] at h ⊢
    cases flex with
    | true => simp at h; subst h; exact ⟨by simp [shDs, tagsK, shD], fun d hd => by simp at hd; subst hd; simp [tagsK, D.width]⟩
    | false =>
      simp at h
      obtain ⟨d, rfl, hd⟩ := h
      refine ⟨by simp [shDs, hd], fun x hx => ?_⟩
      simp at hx; subst hx
      rw [← sh_width, hd]; simp
theorem HoldFs.sh {ver : Int} {tg flex : Bool} : ∀ {fs : List Fld} {i : Nat} {t : Tree} {ds : List D}, HoldFs ver tg flex fs i t ds → shDs ds = shFs tg fs ∧ pos ds
  | [], i, t, ds, h => by simp only [HoldFs] at h; subst h; exact ⟨rfl, fun d hd => by cases hd⟩
  | f :: fs, i, t, ds, h => by
    simp only [HoldFs] at h
    obtain ⟨a, b, rfl, h1, h2, _, h4⟩ := h
    obtain ⟨h5, h6⟩ := HoldFs.sh h4
    exact ⟨by simp only [shDs_append, shFs, h1, h5], pos_append h2 h6⟩
theorem HoldP.sh {ver : Int} {tg flex : Bool} {fs : List Fld} {t : Tree} {ds : List D} (h : HoldP ver tg flex fs t ds) : shDs ds = shP tg fs ∧ pos ds := by
  obtain ⟨a, b, rfl, h1, h2⟩ := h
  exact ⟨by rw [shDs_append, h1.sh.1, h2.sh.1]; rfl, pos_append h1.sh.2 h2.sh.2⟩
section
variable {E : List (List D)} {k off : Nat} {pre post : List D} {ver : Int} {flex : Bool}
end
end Go.Proofs.YtoncnffdlejbaaaDoor

namespace Go.Proofs.YtoncnffdlejbaaaDoor
open Go Go.RowKit
def rpV (kind nul ver : Int) (flex : Bool) : Rp :=
 if kind = 0 then .bool else if kind = 1 then .i8 else if kind = 2 then .i16 else if kind = 3 then .i32 else if kind = 5 then .u16 else if kind = 7 then .uuid
 else if kind = 8 then (if 0 ≤ nul then (if nul ≤ ver then (if flex then .cnstr else .nstr) else (if flex then .pcstr else .pstr)) else (if flex then .cstr else .str))
 else if kind = 9 then (if 0 ≤ nul ∧ nul ≤ ver then (if flex then .cnbytes else .nbytes) else (if flex then .cbytes else .bytes))
 else .i64
def Imp (a b : List D) : Prop := ∀ (ok : Nat → Prop) (w : World) (cs : List Value), Reps ok w a cs → Reps ok w b cs
theorem Imp.refl (a : List D) : Imp a a := fun _ _ _ h => h
theorem Imp.app {a b c d : List D} (h : Imp a b) (k : Imp c d) : Imp (a ++ c) (b ++ d) := by
 intro ok w cs hr
 obtain ⟨c1, c2, rfl, h1, h2⟩ := (Reps.app _ _ _).1 hr
 exact (Reps.app _ _ _).2 ⟨c1, c2, rfl, h ok w c1 h1, k ok w c2 h2⟩
theorem Imp.one {a b : D} (h : ∀ (ok : Nat → Prop) (w : World) (cs : List Value), Rep ok w a cs → Rep ok w b cs) : Imp [a] [b] := by
 intro ok w cs hr
 simp only [Reps] at hr ⊢
 obtain ⟨c1, c2, e, h1, h2⟩ := hr
 exact ⟨c1, c2, e, h ok w c1 h1, h2⟩
theorem rep_one {ok : Nat → Prop} {w : World} {d : D} {cs : List Value} : Reps ok w [d] cs ↔ Rep ok w d cs := by
 simp only [Reps]
 constructor
 ·rintro ⟨c1, c2, rfl, h, rfl⟩; simpa using h
 ·intro h; exact ⟨cs, [], by simp, h, rfl⟩
theorem imp_agg (ds : List D) : Imp ds [.agg ds] := by
 intro ok w cs hr
 rw [rep_one]; simpa only [Rep] using hr
theorem wrap_i16 (n : Int) : IntKind.i16.wrap n = (n + 32768) % 65536 - 32768 := by
 simp [IntKind.wrap, IntKind.bits, IntKind.signed]
 split <;> omega
theorem uvarR_cons (k : Nat) (c : UInt8) (r : List UInt8) : uvarR (k + 1) (c :: r) = if k = 0 then (if c.toNat ≤ 15 then some (c.toNat, r) else none)
   else if c.toNat < 128 then some (c.toNat, r)
   else match uvarR k r with
    | some (n, r') => some (c.toNat - 128 + 128 * n, r')
    | none => none := by rw [uvarR.eq_def]; rfl
end Go.Proofs.YtoncnffdlejbaaaDoor

namespace Go.Proofs.YtoncnffdlejbaaaDoor
open Go Go.RowKit
def Rising (u : List (Nat × List UInt8)) : Prop := u.Pairwise fun a b => a.1 < b.1
theorem imp_sl {n : Bool} {a b : List D} (hl : a.length = b.length) (h : Imp a b) : Imp [.sl n a] [.sl n b] := by
 refine Imp.one (fun ok w cs hr => ?_)
 simp only [Rep] at hr ⊢
 obtain ⟨p, c, e, hle, h1, h2⟩ := hr
 refine ⟨p, c, by rw [← hl]; exact e, by rw [← hl]; exact hle, fun hn => ?_, fun hn => ?_⟩
 ·obtain ⟨k1, k2, k3⟩ := h1 hn
  subst k2
  refine ⟨k1, ?_, k3⟩
  cases b with
  | nil => rfl
  | cons x b => simp at hl
 ·obtain ⟨b', off, cs', k1, k2, k3, k4⟩ := h2 hn
  exact ⟨b', off, cs', k1, k2, k3, h ok w cs' k4⟩
def rpN : Rp → Nat
 | .bool => 0 | .i8 => 1 | .i16 => 2 | .i32 => 3 | .i64 => 4 | .u16 => 5 | .uuid => 6 | .str => 7 | .cstr => 8 | .nstr => 9 | .cnstr => 10 | .bytes => 11 | .cbytes => 12 | .nbytes => 13 | .cnbytes => 14 | .pstr => 15 | .pcstr => 16
def rpEq (a b : Rp) : Bool := Nat.beq (rpN a) (rpN b)
def ne1 (ver : Int) (fs : List Fld) : Bool := fs.any fun f => f.has ver && decide (f.tag < 0) && !decide (f.kind = 10)
def endR (flex : Bool) (off : Nat) (ra : List Ra) : Option (List Ra) := if flex then (match ra with
 | .tags o :: r => bif Nat.beq o off then some r else none
 | _ => none) else some ra
def isEnd (flex : Bool) (off : Nat) (ra : List Ra) : Bool := match endR flex off ra with
 | some [] => true
 | _ => false
def endsO (flex : Bool) (off : Nat) : Option (List Ra) → Bool
 | some r => isEnd flex off r
 | none => false
def isPrim (p : Rp) : List Ra → Bool
 | [.prim q 0] => rpEq q p
 | _ => false
mutual
def mF (ver : Int) (tg flex : Bool) (off : Nat) : Fld → List Ra → Option (List Ra)
 | .mk kind _ _ nul _ _ of sub, ra =>
  if kind = 11 then (match ra with
   | .row c nb o st dfl body :: r =>
    bif (c == flex) && (nb == decide (0 ≤ nul ∧ nul ≤ ver)) && Nat.beq o off && (st == decide (of = 10)) && decide (shDs (litsD dfl) = shE tg of sub) &&
     (if of = 10 then (flex || ne1 ver sub) && endsO flex (shFs tg sub).length (mFs ver tg flex 0 sub body) else isPrim (rpV of (-1) ver flex) body) then some r else none
   | _ => none)
  else if kind = 10 then (if 0 ≤ nul then none else match mFs ver tg flex off sub ra with | some r => endR flex (off + (shFs tg sub).length) r | none => none)
  else (match ra with
   | .prim p o :: r => bif rpEq p (rpV kind nul ver flex) && Nat.beq o off then some r else none
   | _ => none)
def mFs (ver : Int) (tg flex : Bool) (off : Nat) : List Fld → List Ra → Option (List Ra)
 | [], ra => some ra
 | f :: fs, ra => match (if f.has ver then mF ver tg flex off f ra else some ra) with
  | some r => mFs ver tg flex (off + (shF tg f).length) fs r
  | none => none
end
end Go.Proofs.YtoncnffdlejbaaaDoor

namespace Go.Proofs.YtoncnffdlejbaaaDoor
open Go Go.RowKit
theorem repKs_iff {ok : Nat → Prop} {w : World} {es : Array MapEntry} : ∀ (kvs : List (Nat × D)), RepKs ok w es kvs ↔ ∀ kv ∈ kvs, ∃ e ∈ es, e.key = .int .u32 kv.1 ∧ Rep ok w kv.2 [e.val]
 | [] => by simp [RepKs]
 | kv :: kvs => by simp only [RepKs, repKs_iff kvs, List.mem_cons, forall_eq_or_imp]
theorem mem_setTag {k : Nat} {v : List UInt8} : ∀ {u : List (Nat × List UInt8)}, Rising u → ∀ {kv : Nat × List UInt8}, kv ∈ setTag k v u ↔ kv = (k, v) ∨ (kv ∈ u ∧ kv.1 ≠ k)
 | [], _, kv => by simp [setTag]
 | x :: u, h, kv => by
  have hx := List.pairwise_cons.1 h
  simp only [setTag]
  split
  ·rename_i hlt
   simp only [List.mem_cons, mem_setTag hx.2]
   constructor
   ·rintro (rfl | rfl | ⟨h1, h2⟩)
    ·exact .inr ⟨.inl rfl, by omega⟩
    ·exact .inl rfl
    ·exact .inr ⟨.inr h1, h2⟩
   ·rintro (rfl | ⟨rfl | h1, h2⟩)
    ·exact .inr (.inl rfl)
    ·exact .inl rfl
    ·exact .inr (.inr ⟨h1, h2⟩)
  ·split
   ·rename_i h1 h2
    simp only [List.mem_cons]
    constructor
    ·rintro (rfl | h3)
     ·exact .inl rfl
     ·exact .inr ⟨.inr h3, by have := hx.1 kv h3; omega⟩
    ·rintro (rfl | ⟨rfl | h3, h4⟩)
     ·exact .inl rfl
     ·exact absurd h2 h4
     ·exact .inr h3
   ·rename_i h1 h2
    simp only [List.mem_cons]
    constructor
    ·rintro (rfl | rfl | h3)
     ·exact .inl rfl
     ·exact .inr ⟨.inl rfl, h2⟩
     ·exact .inr ⟨.inr h3, by have := hx.1 kv h3; omega⟩
    ·rintro (rfl | ⟨rfl | h3, _⟩)
     ·exact .inl rfl
     ·exact .inr (.inl rfl)
     ·exact .inr (.inr h3)
theorem setTag_rising {k : Nat} {v : List UInt8} : ∀ {u : List (Nat × List UInt8)}, Rising u → Rising (setTag k v u)
 | [], _ => by simp [setTag, Rising]
 | x :: u, h => by
  have hx := List.pairwise_cons.1 h
  simp only [setTag]
  split
  ·rename_i hlt
   refine List.pairwise_cons.2 ⟨fun y hy => ?_, setTag_rising hx.2⟩
   rcases (mem_setTag hx.2).1 hy with rfl | ⟨h1, _⟩
   ·exact hlt
   ·exact hx.1 y h1
  ·split
   ·rename_i h1 h2
    exact List.pairwise_cons.2 ⟨fun y hy => by have := hx.1 y hy; show k < _; omega, hx.2⟩
   ·rename_i h1 h2
    refine List.pairwise_cons.2 ⟨fun y hy => ?_, h⟩
    rcases List.mem_cons.1 hy with rfl | hm
    ·show k < _; omega
    ·have := hx.1 y hm; show k < _; omega
theorem setTag_length {k : Nat} {v : List UInt8} : ∀ {u : List (Nat × List UInt8)}, Rising u → (setTag k v u).length = if k ∈ u.map (·.1) then u.length else u.length + 1
 | [], _ => by simp [setTag]
 | x :: u, h => by
  have hx := List.pairwise_cons.1 h
  have ih := setTag_length (k := k) (v := v) hx.2
  simp only [setTag]
  split
  ·rename_i hlt
   simp only [List.length_cons, ih, List.map_cons, List.mem_cons]
   have : (k = x.1 ∨ k ∈ u.map (·.1)) ↔ k ∈ u.map (·.1) := by
    constructor
    ·rintro (h | h)
     ·omega
     ·exact h
    ·exact .inr
   simp only [this]
   split <;> rfl
  ·split
   ·rename_i h1 h2
    rw [if_pos (by simp [h2])]; simp
   ·rename_i h1 h2
    rw [if_neg ?_]
    ·simp
    ·simp only [List.map_cons, List.mem_cons, List.mem_map, not_or, not_exists, not_and]
     refine ⟨fun e => h2 e.symm, fun y hy e => ?_⟩
     have := hx.1 y hy
     omega
section
variable {P : Program} {w : World} {mty kt et : TypeId} {r clock : Nat} {es : Array MapEntry} {ks : List Nat}
theorem run_mapUpd (hm : P.underlying mty = some (.map kt et)) (hd : P.underlying kt = some (.int .u32)) (hb : w.heap[r]? = some (.map es clock)) (hmap : Mapped es clock ks) (hin : ∀ k ∈ ks, ∃ e ∈ es, e.key = .int .u32 k) (key : Nat) (val : Value) :
  ∃ w' es' clock', (Instr.mapUpdate mty (.map (some r)) (.int .u32 key) val).run P w = .ok () w' ∧ w'.heap[r]? = some (.map es' clock') ∧ Chg (· = r) w w' ∧ w'.heap.size = w.heap.size ∧ MapKept.Stamped es' clock' ∧
   ((key ∉ ks ∧ es' = es.push { key := .int .u32 key, val := val, born := clock }) ∨ (key ∈ ks ∧ ∃ j e, es[j]? = some e ∧ e.key = .int .u32 key ∧ es' = es.modify j fun e => { e with key := .int .u32 key, val := val })) := by
 obtain ⟨h1, h2, h3, _⟩ := hmap
 have hk : MapKept.IsKey (.int .u32) (.int .u32 (key : Int)) := rfl
 have hks : ∀ x ∈ es.toList, MapKept.IsKey (.int .u32) x.key := fun x hx => by
  obtain ⟨k, _, e⟩ := h3 x hx
  rw [e]; rfl
 have chg : ∀ o, Chg (· = r) w { w with heap := w.heap.setIfInBounds r o } := fun o => ⟨rfl, rfl, rfl, by simp, fun k _ hne => (MapKept.heap_set hb).2 k hne⟩
 rcases MapKept.findNow_spec hk es.toList 0 hks with ⟨g1, g2⟩ | ⟨j, e, g1, g2, g3⟩
 ·refine ⟨_, es.push { key := .int .u32 key, val := val, born := clock }, clock + 1, ?_, (MapKept.heap_set hb).1, chg _, by simp, MapKept.stamped_push h2 g2, .inl ⟨fun hin' => ?_, rfl⟩⟩
  ·simp [Instr.mapUpdate, run_underlying hm, MapKept.run_getObj_map hb, MapKept.run_checkKey hd hk, MapKept.run_findKey hd g1, MapKept.run_setObj_map _ hb, Result.andThen]
  ·obtain ⟨x, hx, e⟩ := hin key hin'
   exact g2 x (Array.mem_toList_iff.2 hx) e
 ·have hj : es[j]? = some e := by simpa using g2
  refine ⟨_, es.modify j fun e => { e with key := .int .u32 key, val := val }, clock, ?_, (MapKept.heap_set hb).1, chg _, by simp, ?_, .inr ⟨?_, j, e, hj, g3, rfl⟩⟩
  ·simp [Instr.mapUpdate, run_underlying hm, MapKept.run_getObj_map hb, MapKept.run_checkKey hd hk, MapKept.run_findKey hd g1, hj, g3, MapKept.run_keyThatStays hk, MapKept.run_setObj_map _ hb, Result.andThen]
  ·exact MapKept.stamped_modify h2 _ _ (fun _ _ => rfl) (fun e' _ he' => by rw [hj] at he'; cases he'; exact g3.symm)
  ·obtain ⟨k, hk', e'⟩ := h3 e (Array.mem_toList_iff.2 (Array.mem_of_getElem? hj))
   rw [g3] at e'
   simp only [Value.int.injEq, true_and] at e'
   have : key = k := by omega
   rw [this]; exact hk'
structure TagMap (w : World) (sb r : Nat) (u : List (Nat × List UInt8)) : Prop where
 at_ : ∃ es clock, w.heap[r]? = some (.map es clock) ∧ Mapped es clock (u.map (·.1)) ∧ RepKs (fun b => b = sb) w es (u.map fun kv => (kv.1, bytesD kv.2))
 up : Rising u
theorem TagMap.keep {w w' : World} {S : Nat → Prop} {sb r : Nat} {u : List (Nat × List UInt8)} (h : TagMap w sb r u) (hc : Chg S w w') (hr : ¬ S r) (hs : ¬ S sb) (hsb : sb < w.heap.size) : TagMap w' sb r u := by
 obtain ⟨⟨es, clock, hb, hm, hk⟩, hu⟩ := h
 have hlt : r < w.heap.size := (Array.getElem?_eq_some_iff.1 hb).1
 exact ⟨⟨es, clock, (hc.block r hlt hr).trans hb, hm, RepKs.mono (fun b hb => ⟨hb, by subst hb; exact hc.block b hsb hs⟩) es _ hk⟩, hu⟩
theorem src_rep {w : World} {sb : Nat} {v : Value} {s : List UInt8} (h : SrcV w sb v s) : Rep (fun b => b = sb) w (bytesD s) [v] := by
 simp only [bytesD, Rep, List.length_map]
 rcases h with ⟨rfl, rfl⟩ | ⟨o, c, rfl, hle, hcs, _⟩
 ·exact ⟨none, 0, rfl, Nat.le_refl _, .inl rfl⟩
 ·exact ⟨_, c, rfl, hle, .inr ⟨sb, o, bv s, rfl, rfl, hcs, (reps_bytes s _).2 rfl⟩⟩
theorem run_tagSet (hm : P.underlying mty = some (.map kt et)) (hd : P.underlying kt = some (.int .u32)) {sb : Nat} {u : List (Nat × List UInt8)} (h : TagMap w sb r u) (hne : r ≠ sb) (hsb : sb < w.heap.size) (key : Nat) {val : Value} {s : List UInt8} (hv : SrcV w sb val s) :
  ∃ w', (Instr.mapUpdate mty (.map (some r)) (.int .u32 key) val).run P w = .ok () w' ∧ Chg (· = r) w w' ∧ w'.heap.size = w.heap.size ∧ TagMap w' sb r (setTag key s u) := by
 obtain ⟨⟨es, clock, hb, hmap, hk⟩, hu⟩ := h
 rw [repKs_iff] at hk
 have hk' : ∀ kv ∈ u, ∃ e ∈ es, e.key = .int .u32 kv.1 ∧ Rep (fun b => b = sb) w (bytesD kv.2) [e.val] := fun kv hkv => hk (kv.1, bytesD kv.2) (List.mem_map.2 ⟨kv, hkv, rfl⟩)
 obtain ⟨w', es', clock', hrun, hb', hc, hsz, hst, hcase⟩ := run_mapUpd hm hd hb hmap (fun k hk0 => by
  obtain ⟨kv, hkv, rfl⟩ := List.mem_map.1 hk0
  obtain ⟨e, he, h1, _⟩ := hk' kv hkv
  exact ⟨e, he, h1⟩) key val
 have keep : ∀ {d : D} {cs : List Value}, Rep (fun b => b = sb) w d cs → Rep (fun b => b = sb) w' d cs := fun hr => Rep.mono (fun b hb => ⟨hb, by subst hb; exact hc.block b hsb (fun e => hne e.symm)⟩) _ _ hr
 have hnew : Rep (fun b => b = sb) w' (bytesD s) [val] := keep (src_rep hv)
 have hlen := setTag_length (k := key) (v := s) hu
 refine ⟨w', hrun, hc, hsz, ⟨⟨es', clock', hb', ⟨?_, hst, ?_, List.pairwise_map.2 (setTag_rising hu)⟩, ?_⟩, setTag_rising hu⟩⟩
 ·rw [List.length_map, hlen]
  rcases hcase with ⟨hni, rfl⟩ | ⟨hin, j, e, _, _, rfl⟩
  ·rw [if_neg hni, Array.size_push, hmap.1, List.length_map]
  ·rw [if_pos hin, Array.size_modify, hmap.1, List.length_map]
 ·intro e he
  rcases hcase with ⟨hni, rfl⟩ | ⟨hin, j, e0, hj, hj2, rfl⟩
  ·simp only [Array.toList_push, List.mem_append, List.mem_singleton] at he
   rcases he with he | rfl
   ·obtain ⟨k, hk0, e1⟩ := hmap.2.2.1 e he
    obtain ⟨kv, hkv, rfl⟩ := List.mem_map.1 hk0
    refine ⟨kv.1, List.mem_map.2 ⟨kv, (mem_setTag hu).2 (.inr ⟨hkv, fun e2 => hni (by rw [← e2]; exact hk0)⟩), rfl⟩, e1⟩
   ·exact ⟨key, List.mem_map.2 ⟨(key, s), (mem_setTag hu).2 (.inl rfl), rfl⟩, rfl⟩
  ·have hkeys := MapKept.modify_keys (es := es) j (fun e => { e with key := .int .u32 key, val := val }) (fun e' he' => by rw [hj] at he'; cases he'; exact hj2.symm)
   have : e.key ∈ (es.modify j fun e => { e with key := .int .u32 key, val := val }).toList.map (·.key) := List.mem_map.2 ⟨e, he, rfl⟩
   rw [hkeys] at this
   obtain ⟨y, hy, e1⟩ := List.mem_map.1 this
   obtain ⟨k, hk0, e2⟩ := hmap.2.2.1 y hy
   obtain ⟨kv, hkv, rfl⟩ := List.mem_map.1 hk0
   by_cases hkk : kv.1 = key
   ·exact ⟨key, List.mem_map.2 ⟨(key, s), (mem_setTag hu).2 (.inl rfl), rfl⟩, by rw [← e1, e2, hkk]⟩
   ·exact ⟨kv.1, List.mem_map.2 ⟨kv, (mem_setTag hu).2 (.inr ⟨hkv, hkk⟩), rfl⟩, by rw [← e1, e2]⟩
 ·rw [repKs_iff]
  intro kvd hkvd
  obtain ⟨kv, hkv, rfl⟩ := List.mem_map.1 hkvd
  rcases (mem_setTag hu).1 hkv with rfl | ⟨hold, hkne⟩
  ·rcases hcase with ⟨hni, rfl⟩ | ⟨hin, j, e0, hj, hj2, rfl⟩
   ·exact ⟨_, Array.mem_push_self, rfl, hnew⟩
   ·refine ⟨{ e0 with key := .int .u32 key, val := val }, ?_, rfl, hnew⟩
    have hlt := (Array.getElem?_eq_some_iff.1 hj).1
    refine Array.mem_of_getElem? (i := j) ?_
    rw [Array.getElem?_modify, if_pos rfl, hj]; rfl
  ·obtain ⟨e, he, h1, h2⟩ := hk' kv hold
   rcases hcase with ⟨hni, rfl⟩ | ⟨hin, j, e0, hj, hj2, rfl⟩
   ·exact ⟨e, Array.mem_push_of_mem _ he, h1, keep h2⟩
   ·obtain ⟨i, hi⟩ := Array.mem_iff_getElem?.1 he
    have hij : j ≠ i := by
     rintro rfl
     rw [hj] at hi
     simp only [Option.some.injEq] at hi
     subst hi
     rw [hj2] at h1
     simp only [Value.int.injEq, true_and] at h1
     exact hkne (by omega)
    refine ⟨e, Array.mem_of_getElem? (i := i) ?_, h1, keep h2⟩
    rw [Array.getElem?_modify, if_neg hij]; exact hi
theorem tagMap_new (w : World) (sb : Nat) : TagMap (w.alloc (.map #[] 0)) sb w.heap.size [] := ⟨⟨#[], 0, heap_alloc_new w _, ⟨rfl, MapKept.stamped_empty 0, by simp, by simp⟩, by simp [RepKs]⟩, by simp [Rising]⟩
theorem TagMap.rep {w : World} {sb r lo : Nat} {u : List (Nat × List UInt8)} (h : TagMap w sb r u) (hr : lo ≤ r) (hsb : sb < w.heap.size) : Rep (Dk sb lo w) w (tagsK u) [.map (some r)] := by
 obtain ⟨⟨es, clock, hb, hm, hk⟩, hu⟩ := h
 have hlt : r < w.heap.size := (Array.getElem?_eq_some_iff.1 hb).1
 simp only [tagsK, Rep]
 refine .inr ⟨r, es, clock, rfl, ⟨.inr hr, hlt⟩, hb, ?_, RepKs.mono (fun b hb => ⟨by subst hb; exact ⟨.inl rfl, hsb⟩, rfl⟩) es _ hk⟩
 rw [List.map_map]
 exact hm
end
end Go.Proofs.YtoncnffdlejbaaaDoor

namespace Go.Proofs.YtoncnffdlejbaaaDoor
open Go Go.RowKit
theorem tree_cellsG {ok : Nat → Prop} {w : World} {t : Tree} {cs : List Value} (h : Rep ok w (treeD t) cs) :
  ∃ sv lv uv, cs = [.int .i64 t.n, sv, .bool t.nul, lv, uv] ∧ Rep ok w (bytesD t.s) [sv] ∧ Rep ok w (.sq (t.l.map treeD)) [lv] ∧ Rep ok w (.sq (t.u.map tagD)) [uv] := by
 cases t with
 | mk n s nul l u =>
  simp only [treeD, Rep, Reps, bytesD] at h
  obtain ⟨c1, r1, rfl, rfl, c2, r2, rfl, h2, c3, r3, rfl, rfl, c4, r4, rfl, h4, c5, r5, rfl, h5, rfl⟩ := h
  obtain ⟨a2, b2, rfl, h2'⟩ := h2
  obtain ⟨a4, b4, rfl, h4'⟩ := h4
  obtain ⟨a5, b5, rfl, h5'⟩ := h5
  refine ⟨_, _, _, rfl, ?_, ?_, ?_⟩
  ·simp only [bytesD, Rep]; exact ⟨_, _, rfl, h2'⟩
  ·simp only [Rep, Tree.l, ← treeDs_map]; exact ⟨_, _, rfl, h4'⟩
  ·simp only [Rep]; exact ⟨_, _, rfl, h5'⟩
theorem sq_shape {ok : Nat → Prop} {w : World} {ds : List D} {v : Value} (h : Rep ok w (.sq ds) [v]) : ∃ a c, v = .slice a ds.length c ∧ ds.length ≤ c := by
 simp only [Rep] at h
 obtain ⟨a, c, e, hle, _⟩ := h
 exact ⟨a, c, by simpa using e, hle⟩
structure Fb (B l0 vb : Nat) : Prop where
 le : B ≤ vb
 lt : vb < l0
theorem In.upS {B l0 vb : Nat} (hf : Fb B l0 vb) {S : Nat → Prop} {w w' : World} {d : D} {cs : List Value} (hr : Rep (In B l0 w) w d cs) (h : Chg S w w') (hs : ∀ j, S j → j = vb ∨ w.heap.size ≤ j) : Rep (In B l0 w') w' d cs :=
 Rep.mono (fun b hb => ⟨⟨hb.1, Nat.lt_of_lt_of_le hb.2 h.size⟩, h.block b hb.2 (fun e => by have h1 := hf.le; have h2 := hf.lt; have h3 := hb.2; have h4 := hb.1; rcases hs b e with h | h <;> omega)⟩) d cs hr
theorem In.ups {B l0 vb : Nat} (hf : Fb B l0 vb) {S : Nat → Prop} {w w' : World} {d : List D} {cs : List Value} (hr : Reps (In B l0 w) w d cs) (h : Chg S w w') (hs : ∀ j, S j → j = vb ∨ w.heap.size ≤ j) : Reps (In B l0 w') w' d cs :=
 Reps.mono (fun b hb => ⟨⟨hb.1, Nat.lt_of_lt_of_le hb.2 h.size⟩, h.block b hb.2 (fun e => by have h1 := hf.le; have h2 := hf.lt; have h3 := hb.2; have h4 := hb.1; rcases hs b e with h | h <;> omega)⟩) d cs hr
theorem Lo.upS {B : Nat} {S : Nat → Prop} {w w' : World} {d : D} {cs : List Value} (hr : Rep (Lo B) w d cs) (h : Chg S w w') (hB : B ≤ w.heap.size) (hs : ∀ j, S j → B ≤ j) : Rep (Lo B) w' d cs :=
 Rep.mono (fun b hb => ⟨hb, h.block b (by have h3 : b < B := hb; omega) (fun e => by have h3 : b < B := hb; have := hs b e; omega)⟩) d cs hr
def GiveU (u : List (Nat × List UInt8)) : Prop := Rising u ∧ u.length ≤ many
mutual
def GiveF (tg : Bool) : Fld → Tree → Prop
 | .mk kind _ _ nul _ _ of sub, x => IntKind.i64.wrap x.n = x.n ∧ x.l.length ≤ many ∧ (kind = 9 → nul < 0 → x.nul = false) ∧ (kind = 11 → nul < 0 → x.nul = true → x.l = []) ∧
  (kind = 11 → of = 10 → ∀ y ∈ x.l, GiveFs tg sub 0 y ∧ (tg = true → GiveU y.u)) ∧ (kind = 11 → of ≠ 10 → ∀ y ∈ x.l, IntKind.i64.wrap y.n = y.n) ∧ (kind = 10 → (nul < 0 ∨ x.nul = false) → GiveFs tg sub 0 x ∧ (tg = true → GiveU x.u))
def GiveFs (tg : Bool) : List Fld → Nat → Tree → Prop
 | [], _, _ => True
 | f :: fs, i, t => GiveF tg f (att t i) ∧ GiveFs tg fs (i + 1) t
end
def GiveP (tg : Bool) (fs : List Fld) (t : Tree) : Prop := GiveFs tg fs 0 t ∧ (tg = true → GiveU t.u)
inductive Dw where
 | val (kind nul : Int) (i : Nat)
 | sub (fs : List Fld) (i : Nat)
 | psub (fs : List Fld) (i : Nat)
def Dw.D (tg : Bool) (t : Tree) : Dw → List D
 | .val kind nul i => [valK kind nul (att t i)]
 | .sub fs i => partK tg fs (att t i)
 | .psub fs i => [if (att t i).nul then .lit (.pointer none) else .ptr (.agg (partK tg fs (att t i)))]
inductive Fw where
 | vp (o : Nat) | tb | tp (k : Nat) | wt | ut | lu | at_ (i : Nat) | fd (i k : Nat) | nn (i : Nat) | ln (i : Nat) | an (i : Nat) | dv (d : Dw) | mr (e sz : Nat) | cv (v : Value)
def dnF (B l0 vb tb lo : Nat) (tcs : List Value) (tg : Bool) (t : Tree) (w : World) : Fw → Value → Prop
 | .vp o, v => v = .pointer (some ⟨vb, o, none⟩)
 | .tb, v => v = .pointer (some ⟨tb, 0, none⟩)
 | .tp k, v => v = .pointer (some ⟨tb, k, none⟩)
 | .wt, v => v = .agg tcs.toArray
 | .ut, v => tcs[4]? = some v
 | .lu, v => v = .int .i64 t.u.length
 | .at_ i, v => ∃ cs, v = .agg cs.toArray ∧ Rep (Lo B) w (treeD (att t i)) cs
 | .fd i k, v => ∃ cs, Rep (Lo B) w (treeD (att t i)) cs ∧ cs[k]? = some v
 | .nn i, v => v = .bool (!(att t i).nul)
 | .ln i, v => v = .int .i64 (att t i).l.length
 | .an i, v => v = .int .i64 ((att t i).n % 2)
 | .dv d, v => ∃ cs, v.cells = cs.toArray ∧ Reps (In B l0 w) w (d.D tg t) cs ∧ (cs.all fun v => v.oneCell') = true
 | .mr e sz, v => ∃ g c, v = .slice (some ⟨g, 0, none⟩) 0 c ∧ w.ownsRow lo e sz v 0 [] ∧ g ≠ vb
 | .cv u, v => v = u
theorem dnF.up {B l0 vb tb lo : Nat} (hf : Fb B l0 vb) {tcs : List Value} {tg : Bool} {t : Tree} {S : Nat → Prop} {w w' : World} {x : Fw} {v : Value} (h : dnF B l0 vb tb lo tcs tg t w x v) (hc : Chg S w w') (hl0 : l0 ≤ w.heap.size) (hs : ∀ j, S j → j = vb ∨ w.heap.size ≤ j) : dnF B l0 vb tb lo tcs tg t w' x v := by
 have hBs : B ≤ w.heap.size := by have := hf.le; have := hf.lt; omega
 have hs' : ∀ j, S j → B ≤ j := fun j hj => by have := hf.le; rcases hs j hj with h | h <;> omega
 cases x with
 | vp o => exact h
 | tb => exact h
 | tp k => exact h
 | wt => exact h
 | ut => exact h
 | lu => exact h
 | at_ i => obtain ⟨cs, e, hr⟩ := h; exact ⟨cs, e, Lo.upS hr hc hBs hs'⟩
 | fd i k => obtain ⟨cs, hr, e⟩ := h; exact ⟨cs, Lo.upS hr hc hBs hs', e⟩
 | nn i => exact h
 | ln i => exact h
 | an i => exact h
 | dv d => obtain ⟨cs, e, hr, h1⟩ := h; exact ⟨cs, e, In.ups hf hr hc hs, h1⟩
 | mr e sz =>
  obtain ⟨g, c, rfl, hr, hne⟩ := h
  refine ⟨g, c, rfl, ?_, hne⟩
  obtain ⟨hx, ⟨he, _⟩ | ⟨g', cap, cur, he, hlo, hb, r⟩⟩ := hr
  ·cases he
  ·cases he
   have hlt : g < w.heap.size := (Array.getElem?_eq_some_iff.1 hb).1
   exact ⟨hx, .inr ⟨g, c, cur, rfl, hlo, (hc.block g hlt (fun e => by rcases hs g e with h | h; exact hne h; omega)).trans hb, r⟩⟩
 | cv u => exact h
abbrev FA := List (Nat × Fw)
def lkF : FA → Nat → Option Fw
 | [], _ => none
 | kv :: r, t => bif Nat.beq kv.1 t then some kv.2 else lkF r t
def evF (A : FA) : Operand → Option Fw
 | .tmp t => lkF A t
 | .const v => some (.cv v)
 | _ => none
structure Fk where
 at_ : Nat
 text : Nat
 octs : Nat
 six : Nat
 mks : List (Nat × List Fld)
 pts : List (Nat × List Fld)
def lkM : List (Nat × List Fld) → Nat → Option (List Fld)
 | [], _ => none
 | kv :: r, f => bif Nat.beq kv.1 f then some kv.2 else lkM r f
mutual
def fldEq : Fld → Fld → Bool
 | .mk a b c d e f g s, .mk a' b' c' d' e' f' g' s' => decide (a = a') && decide (b = b') && decide (c = c') && decide (d = d') && decide (e = e') && decide (f = f') && decide (g = g') && fldsEq s s'
def fldsEq : List Fld → List Fld → Bool
 | [], [] => true
 | x :: r, y :: s => fldEq x y && fldsEq r s
 | _, _ => false
end
mutual
theorem fldEq_out : ∀ (x y : Fld), fldEq x y = true → x = y
 | .mk a b c d e f g s, .mk a' b' c' d' e' f' g' s', h => by
  simp only [fldEq, Bool.and_eq_true, decide_eq_true_eq] at h
  obtain ⟨⟨⟨⟨⟨⟨⟨rfl, rfl⟩, rfl⟩, rfl⟩, rfl⟩, rfl⟩, rfl⟩, h⟩ := h
  rw [fldsEq_out s s' h]
theorem fldsEq_out : ∀ (x y : List Fld), fldsEq x y = true → x = y
 | [], [], _ => rfl
 | x :: r, y :: s, h => by
  simp only [fldsEq, Bool.and_eq_true] at h
  rw [fldEq_out x y h.1, fldsEq_out r s h.2]
 | [], y :: s, h => by simp [fldsEq] at h
 | x :: r, [], h => by simp [fldsEq] at h
end
def CvP (P : Program) (f : Nat) (ok : Tree → Prop) (g : Tree → List D) : Prop := isFn P f = true ∧ ∀ (B : Nat) (w : World) (x : Tree) (cs : List Value), ok x → Rep (Lo B) w (treeD x) cs → B ≤ w.heap.size →
 Calls P f #[.agg cs.toArray] w fun en w' => ∃ v vs, en = .returned v ∧ v.cells = vs.toArray ∧ Reps (In B w.heap.size w') w' (g x) vs ∧ (vs.all fun v => v.oneCell') = true ∧ Chg (fun _ => False) w w'
def AtP (P : Program) (f : Nat) : Prop := isFn P f = true ∧ ∀ (B : Nat) (w : World) (t : Tree) (cs : List Value) (i : Nat), Rep (Lo B) w (treeD t) cs → B ≤ w.heap.size →
 Calls P f #[.agg cs.toArray, .int .i64 i] w fun en w' => ∃ cs', en = .returned (.agg cs'.toArray) ∧ Rep (Lo B) w' (treeD (att t i)) cs' ∧ Chg (fun _ => False) w w'
def SxP (P : Program) (f : Nat) : Prop := isFn P f = true ∧ ∀ (B : Nat) (w : World) (s : List UInt8) (v : Value), Rep (Lo B) w (bytesD s) [v] → B ≤ w.heap.size →
 Calls P f #[v] w fun en w' => en = .returned (.agg (bv (sixteen s)).toArray) ∧ Chg (fun _ => False) w w'
structure FkOk (P : Program) (K : Fk) (tg : Bool) : Prop where
 at_ : AtP P K.at_
 text : isFn P K.text = true → CvP P K.text (fun _ => True) fun t => [valK 8 0 t]
 octs : isFn P K.octs = true → CvP P K.octs (fun _ => True) fun t => [valK 9 0 t]
 six : isFn P K.six = true → SxP P K.six
 mks : ∀ f fs, lkM K.mks f = some fs → CvP P f (GiveP tg fs) (partK tg fs)
 pts : ∀ f fs, lkM K.pts f = some fs → CvP P f (fun x => x.nul = false → GiveP tg fs x) fun x => [if x.nul then .lit (.pointer none) else .ptr (.agg (partK tg fs x))]
def isBytes (P : Program) (t : Nat) : Bool := match P.underlying t with | some (.slice e) => (match P.underlying e with | some (.int .u8) => true | _ => false) | _ => false
def isStr (P : Program) (t : Nat) : Bool := match P.underlying t with | some .string => true | _ => false
end Go.Proofs.YtoncnffdlejbaaaDoor

namespace Go.Proofs.YtoncnffdlejbaaaDoor
open Go Go.RowKit
section
variable {P : Program} {ops : Array Oper} {Q : Exit → Act → World → Prop} {N : Nat} {rest : List Oper} {L : Sl} {w : World} {d : Nat} {ty : TypeId} {pos : String} {aft : Array Edge}
end
end Go.Proofs.YtoncnffdlejbaaaDoor

namespace Go.Proofs.YtoncnffdlejbaaaDoor
open Go Go.RowKit
section
variable {P : Program} {a : Act} {w : World} {o : Oper}
theorem ro_move {x : Operand} (h : o.op = .move x) : (execOp a.eval o).run P w = .ok (.value (a.eval x)) w := by cases o; simp only at h; subst h; simp [execOp]
theorem ro_nilCheck {x : Operand} {p : Addr} (h : o.op = .nilCheck x) (hx : a.eval x = .pointer (some p)) : (execOp a.eval o).run P w = .ok (.value (.pointer (some p))) w := by cases o; simp only at h; subst h; simp [execOp, hx]
theorem ro_fieldAddr {x : Operand} {b o' s f off : Nat} (h : o.op = .fieldAddr s x f) (hx : a.eval x = .pointer (some ⟨b, o', none⟩)) (hf : fieldOff P s f = some off) : (execOp a.eval o).run P w = .ok (.value (.pointer (some ⟨b, o' + off, none⟩))) w := by
 cases o; simp only at h; subst h
 unfold fieldOff at hf
 split at hf
 ·rename_i fs hs
  split at hf
  ·rename_i fd hfd
   split at hf
   ·rename_i i hi
    split at hf
    ·cases hf
    ·rename_i hne
     cases hf
     simp [execOp, hx, Instr.fieldAt, run_underlying hs, hfd, Instr.sureAddr, fieldPlace, sizeOf, typeInfo, hi, hne, add_plain]
   ·cases hf
  ·cases hf
 ·cases hf
theorem ro_load {x : Operand} {p : Addr} {t : TypeId} {v : Value} (h : o.op = .load t x) (hx : a.eval x = .pointer (some p)) (ht : tyOne P t = true) (hc : w.cell? p = some v) : (execOp a.eval o).run P w = .ok (.value v) w := by
 cases o; simp only at h; subst h; simp [execOp, hx, Instr.loadAt, Instr.sureAddr, loadVar, run_isAgg_one ht, hc]
theorem ro_convInt {x : Operand} {s t : TypeId} {k k' : IntKind} {n : Int} (h : o.op = .convert s t x) (hx : a.eval x = .int k n) (hs : P.underlying s = some (.int k)) (ht : P.underlying t = some (.int k')) : (execOp a.eval o).run P w = .ok (.value (.int k' (k'.wrap n))) w := by
 cases o; simp only at h; subst h; simp [execOp, hx, convert, run_underlying hs, run_underlying ht, Conv.intToInt]
theorem ro_len {x : Operand} {t : TypeId} {b : Option Addr} {n c : Nat} (h : o.op = .call ⟨.builtin .len, #[x], #[t]⟩) (hx : a.eval x = .slice b n c) (ht : (elemSize P t).isSome = true) : (execOp a.eval o).run P w = .ok (.value (.int .i64 n)) w := by
 cases o; simp only at h; subst h
 unfold elemSize at ht
 split at ht
 ·rename_i e he
  simp [execOp, resolve, invoke, builtin, Builtin.len_, run_underlying he, hx, goInt]
 ·cases ht
theorem do_call {f : FuncId} {args : Array Operand} {ats : Array TypeId} {vs : Array Value} {R : Value → World → Prop} (h : o.op = .call ⟨.value (.func f), args, ats⟩) (ha : args.map a.eval = vs) (hf : isFn P f = true) (hc : Calls P f vs w fun e w' => ∃ v, e = .returned v ∧ R v w') : Does P o a w R := by
 cases o; simp only at h; subst h
 have hargs : args = args.toList.toArray := by simp
 intro K Q hK
 unfold Oper.wp
 have hr : ∀ (d : Option Tmp) (ty : TypeId) (pos : String) (aft : Array Edge) (g : Option (Nat × Bool)), (execOp a.eval ⟨d, .call ⟨.value (.func f), args, ats⟩, ty, pos, aft, g⟩).run P w = .ok (.enter f vs) w := by
  intro d ty pos aft g
  unfold isFn at hf
  cases hfn : P.funcs[f]? with
  | none => simp [hfn] at hf
  | some fn =>
   simp [hfn] at hf
   have h2 : fn.body ≠ none := by intro e; simp [e] at hf
   simp [execOp, resolve, Deferred.ofValue, Act.eval, invoke, callFunc, hfn, hf.1, h2]
   exact ha
 rw [hr]
 refine hc.mono (fun e w' he => ?_)
 obtain ⟨v, rfl, hv⟩ := he
 exact hK _ _ hv
theorem do_of {v : Value} {R : Value → World → Prop} (hr : (execOp a.eval o).run P w = .ok (.value v) w) (h : R v w) : Does P o a w R := does_of hr h
end
theorem FkOk.add {P : Program} {K : Fk} {tg : Bool} (h : FkOk P K tg) {f : Nat} {fs : List Fld} (hc : CvP P f (GiveP tg fs) (partK tg fs)) : FkOk P { K with mks := (f, fs) :: K.mks } tg := by
 refine ⟨h.at_, h.text, h.octs, h.six, fun g gs hg => ?_, h.pts⟩
 simp only [lkM] at hg
 cases hb : Nat.beq f g with
 | true => rw [hb] at hg; simp only [cond_true, Option.some.injEq] at hg; rw [← beq_out hb, ← hg]; exact hc
 | false => rw [hb] at hg; exact h.mks g gs hg
structure KnF (N B l0 vb tb lo : Nat) (tcs : List Value) (tg : Bool) (t : Tree) (w : World) (a : Act) (A : FA) : Prop where
 size : a.tmps.size = N
 defers : a.defers = []
 at_ : ∀ s x, lkF A s = some x → dnF B l0 vb tb lo tcs tg t w x (gt a s)
structure FWd (B vb tb : Nat) (tT : TypeId) (tcs : List Value) (t : Tree) (w : World) : Prop where
 box : Box w tb tcs tT
 rep : Rep (Lo B) w (treeD t) tcs
 ne : tb ≠ vb
theorem FWd.up {B l0 vb tb : Nat} (hf : Fb B l0 vb) {tT : TypeId} {tcs : List Value} {t : Tree} {S : Nat → Prop} {w w' : World} (h : FWd B vb tb tT tcs t w) (hc : Chg S w w') (hl0 : l0 ≤ w.heap.size) (hs : ∀ j, S j → j = vb ∨ w.heap.size ≤ j) : FWd B vb tb tT tcs t w' :=
 ⟨h.box.chg hc (fun e => by rcases hs _ e with h1 | h1; exact h.ne h1; have := h.box.lt; omega), Lo.upS h.rep hc (by have := hf.le; have := hf.lt; omega) (fun j hj => by have := hf.le; have := hf.lt; rcases hs j hj with h | h <;> omega), h.ne⟩
section
variable {P : Program} {K : Fk} {N B l0 vb tb lo : Nat} {tcs : List Value} {tg : Bool} {t : Tree} {w : World} {a : Act} {A : FA}
theorem KnF.up (hf : Fb B l0 vb) {S : Nat → Prop} {w' : World} (h : KnF N B l0 vb tb lo tcs tg t w a A) (hc : Chg S w w') (hl0 : l0 ≤ w.heap.size) (hs : ∀ j, S j → j = vb ∨ w.heap.size ≤ j) : KnF N B l0 vb tb lo tcs tg t w' a A := ⟨h.size, h.defers, fun s x e => (h.at_ s x e).up hf hc hl0 hs⟩
theorem KnF.put (h : KnF N B l0 vb tb lo tcs tg t w a A) {d : Nat} {x : Fw} {v : Value} (hd : Nat.blt d N = true) (hv : dnF B l0 vb tb lo tcs tg t w x v) : KnF N B l0 vb tb lo tcs tg t w (a.put (some d) v) ((d, x) :: A) := by
 refine ⟨(put_size a _ v).trans h.size, (put_defers a _ v).trans h.defers, fun s y e => ?_⟩
 simp only [lkF] at e
 cases hb : Nat.beq d s with
 | true =>
  rw [hb] at e
  simp only [cond_true, Option.some.injEq] at e
  have := beq_out hb; subst this; subst e
  rw [gt_put_same _ _ _ (by rw [h.size]; exact Nat.le_of_ble_eq_true hd)]; exact hv
 | false =>
  rw [hb] at e
  rw [gt_put_ne _ _ _ _ (by rintro rfl; rw [Nat.beq_refl] at hb; cases hb)]
  exact h.at_ s y e
theorem KnF.eval (h : KnF N B l0 vb tb lo tcs tg t w a A) {x : Operand} {f : Fw} (e : evF A x = some f) : dnF B l0 vb tb lo tcs tg t w f (a.eval x) := by
 unfold evF at e
 split at e
 ·exact h.at_ _ _ e
 ·cases e; rfl
 ·cases e
end
end Go.Proofs.YtoncnffdlejbaaaDoor

namespace Go.Proofs.YtoncnffdlejbaaaDoor
open Go Go.RowKit
def FSt (B l0 vb : Nat) (e : TypeId) (w : World) (ds : List D) : Prop := ∃ cs, Box w vb cs e ∧ Reps (In B l0 w) w ds cs
theorem FSt.up {B l0 vb : Nat} (hf : Fb B l0 vb) {e : TypeId} {S : Nat → Prop} {w w' : World} {ds : List D} (h : FSt B l0 vb e w ds) (hc : Chg S w w') (hs : ∀ j, S j → w.heap.size ≤ j) : FSt B l0 vb e w' ds := by
 obtain ⟨cs, hb, hr⟩ := h
 exact ⟨cs, hb.chg hc (fun hj => by have := hs _ hj; have := hb.lt; omega), In.ups hf hr hc (fun j hj => .inr (hs j hj))⟩
theorem FSt.lt {B l0 vb : Nat} {e : TypeId} {w : World} {ds : List D} (h : FSt B l0 vb e w ds) : vb < w.heap.size := by obtain ⟨cs, hb, _⟩ := h; exact hb.lt
section
variable {P : Program} {a : Act} {w : World} {o : Oper}
theorem do_storeSeg {x y : Operand} {b off : Nat} {t e : TypeId} {vs seg A C : List Value} {v : Value} {R : Value → World → Prop} (hop : o.op = .store t x y) (hx : a.eval x = .pointer (some ⟨b, off, none⟩)) (hy : a.eval y = v) (hv : v.cells = vs.toArray) (hsz : sizeIs P t vs.length = true)
  (h1 : (vs.all fun v => v.oneCell') = true) (hB : Box w b (A ++ seg ++ C) e) (hA : A.length = off) (hl : seg.length = vs.length) (h : ∀ w', Box w' b (A ++ vs ++ C) e → w.grownBy w' (some b) → R undef w') : Does P o a w R := by
 cases o; simp only at hop; subst hop
 have hst := run_storeCells_at P b off e vs 0 (A ++ seg ++ C).toArray w hB (by simp; omega) (fun u hu => List.all_eq_true.1 h1 u hu)
 simp only [Nat.add_zero] at hst
 have hnew : ((A ++ seg ++ C).toArray.toList.take off ++ vs ++ (A ++ seg ++ C).toArray.toList.drop (off + vs.length)) = A ++ vs ++ C := by
  subst hA
  simp only []
  rw [List.append_assoc A seg C, List.take_left', ← hl, ← List.append_assoc, ← List.length_append, List.drop_left']
  ·rfl
  ·rfl
 refine does_skip (w' := w.setRow b (A ++ vs ++ C).toArray) ?_ (h _ ?_ ?_)
 ·unfold sizeIs at hsz
  split at hsz
  ·rename_i i hi
   have hsz' := beq_out hsz
   rw [hnew] at hst
   simp [execOp, hx, hy, Instr.storeAt, Instr.sureAddr, storeVar, hv, sizeOf, typeInfo, hi, hsz', hst]
  ·cases hsz
 ·exact setRow_heap w b _ _ _ _ hB
 ·exact ⟨rfl, rfl, rfl, by simp, fun k' _ hk => setRow_other w b k' _ (fun e' => hk (by rw [e']))⟩
end
theorem sl_sq {ok : Nat → Prop} {w : World} {b : Bool} {ds : List D} {cs : List Value} (h : Rep ok w (.sl b ds) cs) : Rep ok w (.sq ds) cs := by
 simp only [Rep] at h ⊢
 obtain ⟨a, c, e, hle, h1, h2⟩ := h
 refine ⟨a, c, e, hle, ?_⟩
 cases b with
 | true => exact .inl (h1 rfl).2.1
 | false => exact .inr (h2 rfl)
section
variable {P : Program} {K : Fk} {N B l0 vb tb lo : Nat} {tcs : List Value} {tg : Bool} {t : Tree} {w : World} {a : Act} {A : FA}
end
end Go.Proofs.YtoncnffdlejbaaaDoor
