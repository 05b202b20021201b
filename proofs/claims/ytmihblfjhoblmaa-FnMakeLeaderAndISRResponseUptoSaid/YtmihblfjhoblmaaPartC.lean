/- A part of the proof of FnMakeLeaderAndISRResponseUptoSaid: what its texts prove stands at the head of each. Conditions: those that each theorem names. -/
import Derived.Test.YtmihblfjhoblmaaPartB
import Derived.Deep.LoopGhost
import Derived.Test.YtmihblfjhoblmaaPartA
import Derived.Test.YtmihblfjhoblmaaProg
import Derived.ScopeJumps
import Derived.Laws.BytesString
import Derived.Carry
set_option linter.all false
/- Where what was read so far does not come to an end well, nothing behind mends it. No program in sight. -/
namespace Go.Proofs.Ytmihblfjhoblmaa
open Go Go.RowKit

/-- What was done so far, and what is under way, falls short of these octets. -/
def Fails (S : RS) (s : List UInt8) : Prop :=
  ∀ x, rdAs S.acts (litsD S.dfl) s = some x → match S.pd with
    | .no => False
    | .rd p _ => rdP p x.2 = none
    | .len c _ _ => lenP c x.2 = none
    | .ok c _ _ => lenP c x.2 = none
    | .made c _ _ _ => lenP c x.2 = none
    | .done c nb _ st dfl body => rowP c nb st dfl body x.2 = none
    | .tg _ => tagsP x.2 = none
    | .vr _ _ => rdP .uuid x.2 = none
theorem Fails.same {S S' : RS} {s : List UInt8} (h : Fails S s) (h1 : S'.acts = S.acts) (h2 : S'.dfl = S.dfl) (h3 : S'.pd = S.pd) : Fails S' s := by
  unfold Fails at *
  rw [h1, h2, h3]; exact h
section
variable {P : Program} {K : Kr} {N rs : Nat}
theorem bif_some {α : Type} {b : Bool} {a x : α} (h : (bif b then some a else none) = some x) : a = x := by
  cases b with
  | false => cases h
  | true => exact Option.some.inj h
end
end Go.Proofs.Ytmihblfjhoblmaa

/- That the reading of code that reads tells the truth: lists, as they are made. Over any program. -/
namespace Go.Proofs.Ytmihblfjhoblmaa
open Go Go.RowKit

section
variable {P : Program} {K : Kr} {N g rb sb : Nat} {ev : Value} {k : Nat} {rows : List (Nat × Nat × Nat)} {zs : List (Nat × List Value)} {S : RS} {Ad : List (Nat × Nat)} {R : List Value} {I : List Int} {it : Wi} {sst st0 st : Option (List UInt8)} {a : Act} {w : World}
end
end Go.Proofs.Ytmihblfjhoblmaa

/- That the reading of code that reads tells the truth: the loop over a list's elements. Over any program. -/
namespace Go.Proofs.Ytmihblfjhoblmaa
open Go Go.RowKit

theorem rdRow_snoc (body : List Ra) (dfl : List D) : ∀ (n : Nat) (s : List UInt8), rdRow body dfl (n + 1) s = (rdRow body dfl n s).bind fun x => (rdAs body dfl x.2).map fun y => (x.1 ++ [y.1], y.2)
  | 0, s => by
    simp only [rdRow, Option.bind_some]
    cases rdAs body dfl s <;> simp
  | n + 1, s => by
    rw [rdRow]
    cases h : rdAs body dfl s with
    | none => rw [rdRow, h]; rfl
    | some x =>
      simp only [Option.bind_some]
      rw [rdRow_snoc body dfl n x.2, rdRow, h]
      simp only [Option.bind_some]
      cases rdRow body dfl n x.2 with
      | none => rfl
      | some y =>
        simp only [Option.bind_some, Option.map_some]
        cases rdAs body dfl y.2 <;> simp
/-- What the first i elements come to. -/
def ItR (body : List Ra) (dfl : List D) (i : Nat) (s : List UInt8) (dss : List (List D)) (st : Option (List UInt8)) : Prop := match rdRow body dfl i s with
  | some x => st = some x.2 ∧ dss = x.1
  | none => st = none
theorem ItR.step {body : List Ra} {dfl : List Value} {i : Nat} {s : List UInt8} {dss : List (List D)} {st st' : Option (List UInt8)} {ds : List D} (h : ItR body (litsD dfl) i s dss st) (k : OutR body (litsD dfl) st ds st') : ItR body (litsD dfl) (i + 1) s (dss ++ [ds]) st' := by
  unfold ItR at *
  rw [rdRow_snoc]
  have k2 := k.2
  cases hx : rdRow body (litsD dfl) i s with
  | none =>
    rw [hx] at h
    simp only [] at h
    subst h
    exact k2
  | some x =>
    rw [hx] at h
    obtain ⟨rfl, rfl⟩ := h
    simp only [] at k2
    simp only [Option.bind_some]
    cases hy : rdAs body (litsD dfl) x.2 with
    | none => rw [hy] at k2; exact k2
    | some y =>
      rw [hy] at k2
      obtain ⟨rfl, rfl⟩ := k2
      exact ⟨rfl, rfl⟩
section
variable {P : Program} {K : Kr} {N g rb sb : Nat} {ev : Value} {k : Nat} {rows : List (Nat × Nat × Nat)} {zs : List (Nat × List Value)} {S : RS} {Ad : List (Nat × Nat)} {R : List Value} {I : List Int} {it : Wi} {sst st0 st : Option (List UInt8)} {a : Act} {w : World}
theorem denW_wide {s : Wd} {v : Value} (Ad' : List (Nat × Nat)) (R' : List Value) (I' : List Int) (h : denW rb Ad R I s = some v) : denW rb (Ad ++ Ad') (R ++ R') (I ++ I') s = some v := by
  cases s with
  | val v => exact h
  | rdr => exact h
  | at_ k o =>
    simp only [denW, Option.map_eq_some_iff] at h ⊢
    obtain ⟨p, hp, e⟩ := h
    exact ⟨p, get_more hp, e⟩
  | res n => exact get_more h
  | idx m =>
    simp only [denW, Option.map_eq_some_iff] at h ⊢
    obtain ⟨p, hp, e⟩ := h
    exact ⟨p, get_more hp, e⟩
theorem KnW.wide {A : WA} (h : KnW N rb a A Ad R I) (Ad' : List (Nat × Nat)) (R' : List Value) (I' : List Int) : KnW N rb a A (Ad ++ Ad') (R ++ R') (I ++ I') := ⟨h.size, h.defers, fun t s e => denW_wide Ad' R' I' (h.at_ t s e)⟩
theorem KnW.back {a' : Act} {A : WA} {Ad' : List (Nat × Nat)} {R' : List Value} {I' : List Int} (h : KnW N rb a A Ad R I) (h' : KnW N rb a' A (Ad ++ Ad') (R ++ R') (I ++ I')) : KnW N rb a' A Ad R I := by
  refine ⟨h'.size, h'.defers, fun t s e => ?_⟩
  have h1 := h.at_ t s e
  have h2 := h'.at_ t s e
  rw [denW_wide Ad' R' I' h1] at h2
  rw [h1, h2]
end
end Go.Proofs.Ytmihblfjhoblmaa

/- That the reading of code that reads tells the truth: the loop over a list's elements, whole. Over any program. -/
namespace Go.Proofs.Ytmihblfjhoblmaa
open Go Go.RowKit

section
variable {P : Program} {K : Kr} {N g rb sb : Nat} {ev : Value} {k : Nat} {rows : List (Nat × Nat × Nat)} {zs : List (Nat × List Value)} {S : RS} {Ad : List (Nat × Nat)} {R : List Value} {I : List Int} {it : Wi} {sst st0 st : Option (List UInt8)} {a : Act} {w : World}
end
end Go.Proofs.Ytmihblfjhoblmaa

/- That the reading of code that reads tells the truth. Over any program. -/
namespace Go.Proofs.Ytmihblfjhoblmaa
open Go Go.RowKit

section
variable {P : Program} {K : Kr} {N g rb sb : Nat} {ev : Value} {k : Nat} {rows : List (Nat × Nat × Nat)} {zs : List (Nat × List Value)} {S : RS} {Ad : List (Nat × Nat)} {R : List Value} {I : List Int} {it : Wi} {sst st0 st : Option (List UInt8)} {a : Act} {w : World}
end
end Go.Proofs.Ytmihblfjhoblmaa

/- That the reading of code that reads tells the truth: the whole. Over any program. -/
namespace Go.Proofs.Ytmihblfjhoblmaa
open Go Go.RowKit

theorem Bad.wide {N g rb rs : Nat} {ev : Value} {it it' : Wi} {R R' : List Value} {w w' : World} (f : Fr rb it it' R R' w w') {a2 : Act} {w2 : World} (h : Bad N g rb ev rs it' w' a2 w2) : Bad N g rb ev rs it w a2 w2 := by
  obtain ⟨b1, b2, b3, b4, b5⟩ := h
  exact ⟨b1, b2, f.chg.trans (b3.wide (fun j hj => by rw [f.b, f.lo] at hj; exact hj)), b4, b5⟩
section
variable {P : Program} {K : Kr} {N g rb sb : Nat} {ev : Value}
end
end Go.Proofs.Ytmihblfjhoblmaa

/- A whole function that reads. Over any program. -/
namespace Go.Proofs.Ytmihblfjhoblmaa
open Go Go.RowKit

structure Hd where
  rs : Nat
  x : Nat
  y : Nat
  f : Nat
  u : Nat
  b : Nat
  r : Nat
  rest : Code
def distinct : List Nat → Bool
  | [] => true
  | x :: r => r.all (fun y => !Nat.beq x y) && distinct r
/-- The head of a function that reads: the result is nil, the defaults are set, the reader is made. -/
def headF (K : Kr) (N : Nat) : Code → Option Hd
  | .seq (.region _ ⟨[⟨some rs, .assign (.const .nilIface), _, _, _, none⟩]⟩ false) (.seq (.region _ ⟨[⟨some x, .move (.tmp 0), _, _, _, none⟩, ⟨some y, .call ⟨.value (.func f), ⟨[.tmp x2]⟩, _⟩, _, _, _, none⟩]⟩ false)
      (.seq (.region _ ⟨[⟨some u, .move (.tmp 1), _, _, _, none⟩, ⟨some b, .build tb ⟨[(0, .tmp u2)]⟩, _, _, _, none⟩, ⟨some r, .alloc ta, _, _, _, none⟩, ⟨none, .store ts (.tmp r2) (.tmp b2), _, _, _, none⟩]⟩ false) rest)) =>
    bif Nat.beq x x2 && Nat.beq u u2 && Nat.beq r r2 && Nat.beq b b2 && Nat.beq tb K.rty && Nat.beq ta K.rty && Nat.beq ts K.rty && [rs, x, y, u, b, r].all (fun t => Nat.blt t N) && distinct [0, 1, 2, rs, x, y, u, b, r] then some ⟨rs, x, y, f, u, b, r, rest⟩ else none
  | _ => none
def resIs (r : Array ResultVar) (t : Nat) : Bool := match r with
  | ⟨[.tmp u]⟩ => Nat.beq u t
  | _ => false
def startS (q : Hd) (cs : List Value) : RS := ⟨[(0, .at_ 0 0), (2, .val (.bool false)), (q.rs, .val .nilIface), (q.r, .rdr)], [], .no, cs.map some, shDs (litsD cs), true, cs, []⟩
/-- A function that reads: what it starts from, what it does. -/
def readF (P : Program) (K : Kr) (f : Nat) (cs : List Value) : Option (List Value × List Ra) := match P.funcs[f]? with
  | some fn => (match fn.body with
    | some c => (match headF K fn.ntmps c with
      | some q => bif isFn P f && resIs fn.results q.rs && Nat.ble 3 fn.ntmps then (match defF P q.f with
        | some l => (match setAll l cs with
          | some cs' => (match runR K P fn.ntmps q.rs 4000 0 [] [] (startS q cs') q.rest with
            | some (S, _, true) => bif isNo S.pd then some (S.dfl, S.acts) else none
            | _ => none)
          | none => none)
        | none => none) else none
      | none => none)
    | none => none)
  | none => none
structure KrTy (P : Program) (K : Kr) : Prop where
  built : ∀ a n c, P.built K.rty [(0, .slice a n c)] = some #[.slice a n c, .bool false]
  zero : ∀ w : World, (zeroValue K.rty).run P w = .ok (.agg #[.slice none 0 0, .bool false]) w
  size : sizeIs P K.rty 2 = true
/-- A slice that holds these octets, in the block sb. -/
def SrcAt (w : World) (sb : Nat) (v : Value) (s : List UInt8) : Prop := s.length ≤ srcLim ∧ ((v = .slice none 0 0 ∧ s = []) ∨ ∃ o c, v = .slice (some ⟨sb, o, none⟩) s.length c ∧ s.length ≤ c ∧ CellsAt w sb o (bv s))
section
variable {P : Program} {K : Kr} {g : Nat} {ev : Value} {w : World}
end
end Go.Proofs.Ytmihblfjhoblmaa

/- The package's reader: its cells, what it has before it. Over any program. -/
namespace Go.Proofs.Ytmihblfjhoblmaa
open Go Go.RowKit

def SrcV (w : World) (sb : Nat) (v : Value) (s : List UInt8) : Prop := (v = .slice none 0 0 ∧ s = []) ∨ ∃ o c, v = .slice (some ⟨sb, o, none⟩) s.length c ∧ s.length ≤ c ∧ CellsAt w sb o (bv s)
theorem SrcV.rdr {w : World} {rb sb : Nat} {v : Value} {s : List UInt8} {e : TypeId} (h : SrcV w sb v s) (hb : Box w rb [v, .bool false] e) (hl : s.length ≤ srcLim) : Rdr w rb sb (some s) := ⟨v, e, hb, hl, h⟩
theorem SrcV.chg {S : Nat → Prop} {w w' : World} {sb : Nat} {v : Value} {s : List UInt8} (h : SrcV w sb v s) (hc : Chg S w w') (hs : ¬ S sb) : SrcV w' sb v s := by
  rcases h with h | ⟨o, c, e, hle, hcs⟩
  · exact .inl h
  · exact .inr ⟨o, c, e, hle, hcs.chg hc hs⟩
theorem bv_take (s : List UInt8) (m : Nat) : bv (s.take m) = (bv s).take m := by simp [bv]
theorem bv_drop (s : List UInt8) (m : Nat) : bv (s.drop m) = (bv s).drop m := by simp [bv]
theorem bv_len (s : List UInt8) : (bv s).length = s.length := by simp [bv]
theorem SrcV.drop {w : World} {sb : Nat} {a : Option Addr} {c m : Nat} {s : List UInt8} (h : SrcV w sb (.slice a s.length c) s) (hm : m ≤ s.length) : SrcV w sb (.slice (if c = m then a else a.map (·.add m)) (s.length - m) (c - m)) (s.drop m) := by
  rcases h with ⟨e, rfl⟩ | ⟨o, c', e, hle, hcs⟩
  · simp only [Value.slice.injEq] at e
    obtain ⟨rfl, _, rfl⟩ := e
    simp only [List.length_nil, Nat.le_zero] at hm
    subst hm
    exact .inl ⟨by simp, rfl⟩
  · simp only [Value.slice.injEq, true_and] at e
    obtain ⟨rfl, rfl⟩ := e
    have hcs' : CellsAt w sb (o + m) (bv (s.drop m)) := by
      have h1 : bv s = (bv s).take m ++ (bv s).drop m := (List.take_append_drop _ _).symm
      rw [h1] at hcs
      have := hcs.right
      rw [List.length_take, bv_len, Nat.min_eq_left hm, ← bv_drop] at this
      exact this
    by_cases hcm : c = m
    · subst hcm
      have : s.drop c = [] := List.drop_eq_nil_of_le hle
      right
      refine ⟨o, 0, ?_, by simp [this], ?_⟩
      · simp only [if_true, Nat.sub_self, List.length_drop]
      · rw [this]
        obtain ⟨arr, e, fz, h1, h2, h3⟩ := hcs
        exact ⟨arr, e, fz, h1, by simp [bv]; omega, fun i v hv => by simp [bv] at hv⟩
    · right
      refine ⟨o + m, c - m, ?_, by simp; omega, hcs'⟩
      simp [hcm, Addr.add]
theorem SrcV.take {w : World} {sb : Nat} {a : Option Addr} {c m : Nat} {s : List UInt8} (h : SrcV w sb (.slice a s.length c) s) (hm : m ≤ s.length) : SrcV w sb (.slice a m m) (s.take m) := by
  rcases h with ⟨e, rfl⟩ | ⟨o, c', e, hle, hcs⟩
  · simp only [Value.slice.injEq] at e
    obtain ⟨rfl, _, rfl⟩ := e
    simp only [List.length_nil, Nat.le_zero] at hm
    subst hm
    exact .inl ⟨rfl, rfl⟩
  · simp only [Value.slice.injEq, true_and] at e
    obtain ⟨rfl, rfl⟩ := e
    right
    have hl : (s.take m).length = m := by simp; omega
    refine ⟨o, m, by rw [hl], by rw [hl]; exact Nat.le_refl _, ?_⟩
    have h1 : bv s = bv (s.take m) ++ (bv s).drop m := by rw [bv_take]; exact (List.take_append_drop _ _).symm
    rw [h1] at hcs
    exact hcs.left
theorem SrcV.cell {w : World} {sb : Nat} {a : Option Addr} {c i : Nat} {s : List UInt8} (h : SrcV w sb (.slice a s.length c) s) (hi : i < s.length) : ∃ o, a = some ⟨sb, o, none⟩ ∧ w.cell? ⟨sb, o + i * 1, none⟩ = some (.int .u8 s[i].toNat) := by
  rcases h with ⟨e, rfl⟩ | ⟨o, c', e, hle, hcs⟩
  · cases hi
  · simp only [Value.slice.injEq, true_and] at e
    obtain ⟨rfl, rfl⟩ := e
    refine ⟨o, rfl, ?_⟩
    rw [Nat.mul_one]
    exact hcs.cell (by simp [bv, hi])
theorem SrcV.sq {w : World} {sb lo : Nat} {v : Value} {s : List UInt8} (h : SrcV w sb v s) (hs : sb < w.heap.size) : Rep (Dk sb lo w) w (.sq (s.map byteD)) [v] := by
  simp only [Rep, List.length_map]
  rcases h with ⟨rfl, rfl⟩ | ⟨o, c, rfl, hle, hcs⟩
  · exact ⟨none, 0, rfl, Nat.le_refl _, .inl rfl⟩
  · exact ⟨_, c, rfl, hle, .inr ⟨sb, o, bv s, rfl, ⟨.inl rfl, hs⟩, hcs, (reps_bytes s _).2 rfl⟩⟩
/-- What is told of a function of the reader's that reads. -/
def RdC (P : Program) (f : Nat) (p : Rp) : Prop := ∀ (w : World) (rb sb lo : Nat) (st : Option (List UInt8)), Rdr w rb sb st → rb < lo → sb < lo → lo ≤ w.heap.size → rb ≠ sb →
    Calls P f #[.pointer (some ⟨rb, 0, none⟩)] w fun e w' => ∃ v nd st', e = .returned v ∧ Chg (· = rb) w w' ∧ Rdr w' rb sb st' ∧ Reps (Dk sb lo w') w' nd v.cells.toList ∧ (v.cells.toList.all fun v => v.oneCell') = true ∧ ((shR p).length = 1 → v.cells = #[v]) ∧ RdRel p st nd st'
def LenC (P : Program) (f : Nat) (c : Bool) : Prop := ∀ (w : World) (rb sb lo : Nat) (st : Option (List UInt8)), Rdr w rb sb st → rb < lo → sb < lo → lo ≤ w.heap.size → rb ≠ sb →
    Calls P f #[.pointer (some ⟨rb, 0, none⟩)] w fun e w' => ∃ l st', e = .returned (.int .i32 l) ∧ Chg (· = rb) w w' ∧ Rdr w' rb sb st' ∧ LenRel c st l st'
section
variable {P : Program} {ops : Array Oper} {Q : Exit → Act → World → Prop} {N : Nat} {rest : List Oper} {L : Sl} {w : World} {d : Nat} {ty : TypeId} {pos : String} {aft : Array Edge}
end
end Go.Proofs.Ytmihblfjhoblmaa

/- The numbers of the program's types, and what they are. -/
namespace Go.Proofs.Ytmihblfjhoblmaa
open Go Go.RowKit
theorem ti_u8 : isInt Try.prog 5 .u8 = true := by kernel_rfl
theorem ti_i64 : isInt Try.prog 3 .i64 = true := by kernel_rfl
theorem ti_i32 : isInt Try.prog 21 .i32 = true := by kernel_rfl
theorem ti_i16 : isInt Try.prog 45 .i16 = true := by kernel_rfl
theorem ti_u16 : isInt Try.prog 146 .u16 = true := by kernel_rfl
theorem ti_u32 : isInt Try.prog 62 .u32 = true := by kernel_rfl
theorem tb_bytes : byteSl Try.prog 22 5 = true := by kernel_rfl
theorem ts_str : (match Try.prog.underlying 9 with | some .string => true | _ => false) = true := by kernel_rfl
theorem ti_u64 : isInt Try.prog 126 .u64 = true := by kernel_rfl
theorem ti_l64 : isInt Try.prog 2 .i64 = true := by kernel_rfl
theorem fo_tree0 : fieldOff Try.prog 26 0 = some 0 := by kernel_rfl
theorem fo_tree3 : fieldOff Try.prog 26 3 = some 3 := by kernel_rfl
theorem fo_tree4 : fieldOff Try.prog 26 4 = some 4 := by kernel_rfl
theorem fo_fld0 : fieldOff Try.prog 50 0 = some 0 := by kernel_rfl
theorem fo_fld4 : fieldOff Try.prog 50 4 = some 4 := by kernel_rfl
theorem fo_fld5 : fieldOff Try.prog 50 5 = some 5 := by kernel_rfl
theorem fo_fld6 : fieldOff Try.prog 50 6 = some 6 := by kernel_rfl
theorem fo_fld7 : fieldOff Try.prog 50 7 = some 7 := by kernel_rfl
theorem fo_tag0 : fieldOff Try.prog 64 0 = some 0 := by kernel_rfl
theorem fo_tag1 : fieldOff Try.prog 64 1 = some 1 := by kernel_rfl
theorem fo_msg0 : fieldOff Try.prog 31 0 = some 0 := by kernel_rfl
theorem to_int : tyOne Try.prog 3 = true := by kernel_rfl
theorem to_bool : tyOne Try.prog 4 = true := by kernel_rfl
theorem to_bytes : tyOne Try.prog 22 = true := by kernel_rfl
theorem to_trees : tyOne Try.prog 23 = true := by kernel_rfl
theorem to_tags : tyOne Try.prog 24 = true := by kernel_rfl
theorem to_flds : tyOne Try.prog 29 = true := by kernel_rfl
theorem to_u32 : tyOne Try.prog 62 = true := by kernel_rfl
theorem to_i64 : tyOne Try.prog 2 = true := by kernel_rfl
theorem to_u8 : tyOne Try.prog 5 = true := by kernel_rfl
theorem ta_tree : tyAgg Try.prog 26 = some 5 := by kernel_rfl
theorem tz_tree : (Try.prog.info? 26).map (·.size) = some 5 := by kernel_rfl
theorem ta_fld : tyAgg Try.prog 50 = some 8 := by kernel_rfl
theorem tz_fld : (Try.prog.info? 50).map (·.size) = some 8 := by kernel_rfl
theorem ta_tag : tyAgg Try.prog 64 = some 2 := by kernel_rfl
theorem tz_tag : (Try.prog.info? 64).map (·.size) = some 2 := by kernel_rfl
theorem ta_msg : tyAgg Try.prog 31 = some 2 := by kernel_rfl
theorem tz_msg : (Try.prog.info? 31).map (·.size) = some 2 := by kernel_rfl
theorem es_bytes : elemSize Try.prog 22 = some 1 := by kernel_rfl
theorem el_bytes : (elemSize Try.prog 22).isSome = true := by kernel_rfl
theorem es_trees : elemSize Try.prog 23 = some 5 := by kernel_rfl
theorem el_trees : (elemSize Try.prog 23).isSome = true := by kernel_rfl
theorem es_tags : elemSize Try.prog 24 = some 2 := by kernel_rfl
theorem el_tags : (elemSize Try.prog 24).isSome = true := by kernel_rfl
theorem es_flds : elemSize Try.prog 29 = some 8 := by kernel_rfl
theorem mixed : Try.prog.follows .mixedOrders = true := by kernel_rfl
theorem zv_tree (w : World) : (zeroValue 26).run Try.prog w = .ok (.agg #[.int .i64 0, .slice none 0 0, .bool false, .slice none 0 0, .slice none 0 0]) w := by kernel_rfl
theorem zv_fld (w : World) : (zeroValue 50).run Try.prog w = .ok (.agg #[.int .i64 0, .int .i64 0, .int .i64 0, .int .i64 0, .int .i64 0, .int .i64 0, .int .i64 0, .slice none 0 0]) w := by kernel_rfl
theorem zv_tag (w : World) : (zeroValue 64).run Try.prog w = .ok (.agg #[.int .u32 0, .slice none 0 0]) w := by kernel_rfl
/-- Where the reference's fields lie, and which types are of slices. -/
def tbl : Tbl := ⟨[(26, 0, 0), (26, 1, 1), (26, 2, 2), (26, 3, 3), (26, 4, 4), (50, 0, 0), (50, 1, 1), (50, 2, 2), (50, 3, 3), (50, 4, 4), (50, 5, 5), (50, 6, 6), (50, 7, 7), (64, 0, 0), (64, 1, 1), (31, 0, 0), (31, 1, 1)], [22, 23, 24, 29]⟩
theorem tbl_ok : tbl.ok Try.prog = true := by kernel_rfl
theorem ws {ops : Array Oper} {Q : Exit → Act → World → Prop} {N : Nat} {rest : List Oper} {L : Sl} {w : World} {d : Nat} {ty : TypeId} {pos : String} {aft : Array Edge} {o : Op} {v : Value}
    (hs : stepOp tbl L o = some v) (hd : Nat.blt d N = true) (h : WL rest Try.prog ops Q N ((d, v) :: L) w) : WL (⟨some d, o, ty, pos, aft, none⟩ :: rest) Try.prog ops Q N L w := wl_step tbl tbl_ok hs hd h
end Go.Proofs.Ytmihblfjhoblmaa

/- The package's reader at the seat: the plain values. -/
namespace Go.Proofs.Ytmihblfjhoblmaa.Rdk
open Go Go.RowKit

theorem to_bytes : tyOne Try.prog 22 = true := by kernel_rfl
theorem to_bool : tyOne Try.prog 4 = true := by kernel_rfl
theorem to_u8 : tyOne Try.prog 5 = true := by kernel_rfl
theorem es_bytes : elemSize Try.prog 22 = some 1 := by kernel_rfl

end Go.Proofs.Ytmihblfjhoblmaa.Rdk

/- Numbers out of octets, the highest first: encoding/binary's functions (text printed by tools/be.py). -/
namespace Go.Proofs.Ytmihblfjhoblmaa.Rdk
open Go Go.RowKit

section
variable {P : Program} {a : Act} {w : World} {N : Nat} {L : Sl} {d : Option Tmp} {ty : TypeId} {pos : String} {aft : Array Edge} {g : Option (Nat × Bool)}
end
end Go.Proofs.Ytmihblfjhoblmaa.Rdk

/- The package's reader at the seat: numbers (text printed by tools/rdk.py). -/
namespace Go.Proofs.Ytmihblfjhoblmaa.Rdk
open Go Go.RowKit

set_option maxRecDepth 100000
/-- What is told of eight octets read as a number. -/
def RelU (st : Option (List UInt8)) (n : Nat) (st' : Option (List UInt8)) : Prop := match st with
  | none => st' = none
  | some s => if 8 ≤ s.length then st' = some (s.drop 8) ∧ n = unbe (s.take 8) else st' = none
def RdU (P : Program) (f : Nat) : Prop := ∀ (w : World) (rb sb lo : Nat) (st : Option (List UInt8)), Rdr w rb sb st → rb < lo → sb < lo → lo ≤ w.heap.size → rb ≠ sb →
    Calls P f #[.pointer (some ⟨rb, 0, none⟩)] w fun e w' => ∃ (n : Nat) (st' : Option (List UInt8)), e = .returned (.int .u64 (n : Int)) ∧ Chg (· = rb) w w' ∧ Rdr w' rb sb st' ∧ RelU st n st'
end Go.Proofs.Ytmihblfjhoblmaa.Rdk

/- The package's reader at the seat: spans, the ends. -/
namespace Go.Proofs.Ytmihblfjhoblmaa.Rdk
open Go Go.RowKit

set_option maxRecDepth 100000
def SpanRel (l : Int) (st : Option (List UInt8)) (s1 : List UInt8) (st' : Option (List UInt8)) : Prop := match st with
  | none => st' = none
  | some s => match spanP l s with
    | some x => st' = some x.2 ∧ s1 = x.1
    | none => st' = none
end Go.Proofs.Ytmihblfjhoblmaa.Rdk

/- What structs hold of a tree as far as a version goes; what is appended of them. No program in sight. -/
namespace Go.Proofs.Ytmihblfjhoblmaa
open Go Go.RowKit

def HoldV (ver kind nul : Int) (t : Tree) (d : D) : Prop :=
  if kind = 9 ∧ ¬ (0 ≤ nul ∧ nul ≤ ver) then d.isAgg = false ∧ shD d = [.sl] ∧ ∃ n, sliceOf d = some (n, t.s.map byteD) else d = valK kind nul t
/-- A list's cell. -/
def HoldS (ver nul : Int) (t : Tree) (Q : List D → Prop) (d : D) : Prop :=
  (0 ≤ nul ∧ t.nul = true ∧ d = .sl true []) ∨ (¬ (0 ≤ nul ∧ t.nul = true) ∧ d.isAgg = false ∧ shD d = [.sl] ∧ ∃ n els, sliceOf d = some (n, els) ∧ (0 ≤ nul → nul ≤ ver → isnOf d = some false) ∧ els.length = t.l.length ∧ Q els)
def HoldU (tg flex : Bool) (t : Tree) (b : List D) : Prop := if tg then (if flex then b = [tagsK t.u] else ∃ d, b = [d] ∧ shD d = [.mp]) else b = []
mutual
def HoldF (ver : Int) (tg flex : Bool) : Fld → Tree → List D → Prop
  | .mk kind _ _ nul _ _ of sub, t, ds =>
    if kind = 11 then ∃ d, ds = [d] ∧ HoldS ver nul t (fun els =>
      (if of = 10 then ∀ i, i < t.l.length → ∃ a b, els[i]? = some (.agg (a ++ b)) ∧ HoldFs ver tg flex sub 0 (att t i) a ∧ HoldU tg flex (att t i) b
       else els = t.l.map (valK of (-1)))) d
    else if kind = 10 then (if 0 ≤ nul then (t.nul = true ∧ ds = [.lit (.pointer none)]) ∨ (t.nul = false ∧ ∃ a b, ds = [.ptr (.agg (a ++ b))] ∧ HoldFs ver tg flex sub 0 t a ∧ HoldU tg flex t b)
      else ∃ a b, ds = a ++ b ∧ HoldFs ver tg flex sub 0 t a ∧ HoldU tg flex t b)
    else ∃ d, ds = [d] ∧ HoldV ver kind nul t d
def HoldFs (ver : Int) (tg flex : Bool) : List Fld → Nat → Tree → List D → Prop
  | [], _, _, ds => ds = []
  | f :: fs, i, t, ds => ∃ a b, ds = a ++ b ∧ shDs a = shF tg f ∧ pos a ∧ (f.has ver = true → HoldF ver tg flex f (att t i) a) ∧ HoldFs ver tg flex fs (i + 1) t b
end
def HoldP (ver : Int) (tg flex : Bool) (fs : List Fld) (t : Tree) (ds : List D) : Prop := ∃ a b, ds = a ++ b ∧ HoldFs ver tg flex fs 0 t a ∧ HoldU tg flex t b
theorem HoldU.sh {tg flex : Bool} {t : Tree} {b : List D} (h : HoldU tg flex t b) : shDs b = (if tg then [.mp] else []) ∧ pos b := by
  unfold HoldU at h
  cases tg with
  | false => simp at h; subst h; exact ⟨rfl, fun d hd => by cases hd⟩
  | true =>
    simp only [if_true] at h ⊢
    cases flex with
    | true => simp at h; subst h; exact ⟨by simp [shDs, tagsK, shD], fun d hd => by simp at hd; subst hd; simp [tagsK, D.width]⟩
    | false =>
      simp at h
      obtain ⟨d, rfl, hd⟩ := h
      refine ⟨by simp [shDs, hd], fun x hx => ?_⟩
      simp at hx; subst hx
      rw [← sh_width, hd]; simp
theorem HoldFs.sh {ver : Int} {tg flex : Bool} : ∀ {fs : List Fld} {i : Nat} {t : Tree} {ds : List D}, HoldFs ver tg flex fs i t ds → shDs ds = shFs tg fs ∧ pos ds
  | [], i, t, ds, h => by simp only [HoldFs] at h; subst h; exact ⟨rfl, fun d hd => by cases hd⟩
  | f :: fs, i, t, ds, h => by
    simp only [HoldFs] at h
    obtain ⟨a, b, rfl, h1, h2, _, h4⟩ := h
    obtain ⟨h5, h6⟩ := HoldFs.sh h4
    exact ⟨by simp only [shDs_append, shFs, h1, h5], pos_append h2 h6⟩
theorem HoldP.sh {ver : Int} {tg flex : Bool} {fs : List Fld} {t : Tree} {ds : List D} (h : HoldP ver tg flex fs t ds) : shDs ds = shP tg fs ∧ pos ds := by
  obtain ⟨a, b, rfl, h1, h2⟩ := h
  exact ⟨by rw [shDs_append, h1.sh.1, h2.sh.1]; rfl, pos_append h1.sh.2 h2.sh.2⟩
section
variable {E : List (List D)} {k off : Nat} {pre post : List D} {ver : Int} {flex : Bool}
end
end Go.Proofs.Ytmihblfjhoblmaa

/- What is read of what is written: one value, tags. No program in sight. -/
namespace Go.Proofs.Ytmihblfjhoblmaa
open Go Go.RowKit

def rpV (kind nul ver : Int) (flex : Bool) : Rp :=
  if kind = 0 then .bool else if kind = 1 then .i8 else if kind = 2 then .i16 else if kind = 3 then .i32 else if kind = 5 then .u16 else if kind = 7 then .uuid
  else if kind = 8 then (if 0 ≤ nul ∧ nul ≤ ver then (if flex then .cnstr else .nstr) else (if flex then .cstr else .str))
  else if kind = 9 then (if 0 ≤ nul ∧ nul ≤ ver then (if flex then .cnbytes else .nbytes) else (if flex then .cbytes else .bytes))
  else .i64
/-- What cells say in these words they say in those. -/
def Imp (a b : List D) : Prop := ∀ (ok : Nat → Prop) (w : World) (cs : List Value), Reps ok w a cs → Reps ok w b cs
theorem Imp.refl (a : List D) : Imp a a := fun _ _ _ h => h
theorem Imp.app {a b c d : List D} (h : Imp a b) (k : Imp c d) : Imp (a ++ c) (b ++ d) := by
  intro ok w cs hr
  obtain ⟨c1, c2, rfl, h1, h2⟩ := (Reps.app _ _ _).1 hr
  exact (Reps.app _ _ _).2 ⟨c1, c2, rfl, h ok w c1 h1, k ok w c2 h2⟩
theorem Imp.one {a b : D} (h : ∀ (ok : Nat → Prop) (w : World) (cs : List Value), Rep ok w a cs → Rep ok w b cs) : Imp [a] [b] := by
  intro ok w cs hr
  simp only [Reps] at hr ⊢
  obtain ⟨c1, c2, e, h1, h2⟩ := hr
  exact ⟨c1, c2, e, h ok w c1 h1, h2⟩
theorem rep_one {ok : Nat → Prop} {w : World} {d : D} {cs : List Value} : Reps ok w [d] cs ↔ Rep ok w d cs := by
  simp only [Reps]
  constructor
  · rintro ⟨c1, c2, rfl, h, rfl⟩; simpa using h
  · intro h; exact ⟨cs, [], by simp, h, rfl⟩
end Go.Proofs.Ytmihblfjhoblmaa

/- kbin.Uvarint at the seat (text printed by tools/uvar.py). -/
namespace Go.Proofs.Ytmihblfjhoblmaa.Rdk
open Go Go.RowKit

set_option maxRecDepth 100000
section
variable {P : Program} {Q : Exit → Act → World → Prop} {N : Nat} {L : Sl} {w : World}
def Jmp (l N : Nat) (Lj : Sl) (Q : Exit → Act → World → Prop) (w0 : World) (X : Prop) : Exit → Act → World → Prop := Exit.jump l (fun a w => Kn N a Lj ∧ w = w0 ∧ X) Q
end
def UvarRel (s : List UInt8) (u n : Int) : Prop := match uvarP s with
  | some x => u = (x.1 : Int) ∧ ∃ m : Nat, n = (m : Int) ∧ 0 < m ∧ m ≤ s.length ∧ x.2 = s.drop m
  | none => n ≤ 0

end Go.Proofs.Ytmihblfjhoblmaa.Rdk

/- The package's reader at the seat: counts, texts. -/
namespace Go.Proofs.Ytmihblfjhoblmaa.Rdk
open Go Go.RowKit

set_option maxRecDepth 100000
section
variable {P : Program} {ops : Array Oper} {Q : Exit → Act → World → Prop} {N : Nat} {rest : List Oper} {L : Sl} {w : World} {d : Nat} {ty : TypeId} {pos : String} {aft : Array Edge}
theorem wl_extract {x : Operand} {i : Nat} {cs : Array Value} {v : Value} (hx : ev L x = some (.tuple cs)) (hv : cs[i]? = some v) (hd : Nat.blt d N = true) (h : WL rest P ops Q N ((d, v) :: L) w) : WL (⟨some d, .extract x i, ty, pos, aft, none⟩ :: rest) P ops Q N L w := by
  intro a k
  refine st_of (o := ⟨some d, .extract x i, ty, pos, aft, none⟩) rfl ?_ (h _ (k.put _ hd))
  simp [execOp, k.eval hx, Instr.extract, hv]
end
def UvRel (st : Option (List UInt8)) (u : Nat) (st' : Option (List UInt8)) : Prop := u < 4294967296 ∧ match st with
  | none => st' = none
  | some s => match uvarP s with
    | some x => st' = some x.2 ∧ u = x.1
    | none => st' = none
end Go.Proofs.Ytmihblfjhoblmaa.Rdk

/- The package's reader at the seat: counts, texts, octets (text printed by tools/lens.py). -/
namespace Go.Proofs.Ytmihblfjhoblmaa.Rdk
open Go Go.RowKit

set_option maxRecDepth 100000
def IntRel (k : IntKind) (n : Nat) (st : Option (List UInt8)) (m : Int) (st' : Option (List UInt8)) : Prop := match st with
  | none => st' = none
  | some s => match intP k n s with
    | some x => st' = some x.2 ∧ m = x.1
    | none => st' = none
/-- A count ahead of it is held against what lies ahead. -/
def preP (c : Bool) (s : List UInt8) : Option (Int × List UInt8) := if c then (uvarP s).map fun x => (IntKind.i32.wrap (IntKind.i32.wrap x.1 - 1), x.2) else intP .i32 4 s
def PreRel (c : Bool) (st : Option (List UInt8)) (m : Int) (st' : Option (List UInt8)) : Prop := match st with
  | none => st' = none
  | some s => match preP c s with
    | some x => st' = some x.2 ∧ m = x.1
    | none => st' = none
theorem len_ok {X : Prop} {c : Bool} {st st1 : Option (List UInt8)} {m : Int} {s1 : List UInt8} (h : PreRel c st m st1) (hv : (st1 = none ∧ s1 = [] ∧ X) ∨ st1 = some s1) (hlt : ¬ (s1.length : Int) < m) : LenRel c st m st1 := by
  unfold LenRel
  unfold PreRel at h
  cases st with
  | none => exact h
  | some s =>
    simp only [] at h ⊢
    have e : lenP c s = (preP c s).bind fun x => if (x.2.length : Int) < x.1 then none else some x := rfl
    rw [e]
    cases hx : preP c s with
    | none => rw [hx] at h; exact h
    | some x =>
      rw [hx] at h
      obtain ⟨rfl, rfl⟩ := h
      rcases hv with ⟨hv, _⟩ | hv
      · cases hv
      · simp only [Option.some.injEq] at hv
        subst hv
        simp only [Option.bind_some]
        rw [if_neg hlt]
        exact ⟨rfl, rfl⟩


/-- The count ahead of a text. -/
def cntP (c : Bool) (k : IntKind) (n : Nat) (s : List UInt8) : Option (Int × List UInt8) := if c then (uvarP s).map fun x => ((x.1 : Int) - 1, x.2) else intP k n s
def CntRel (c : Bool) (k : IntKind) (n : Nat) (st : Option (List UInt8)) (m : Int) (st' : Option (List UInt8)) : Prop := match st with
  | none => st' = none
  | some s => match cntP c k n s with
    | some x => st' = some x.2 ∧ m = x.1
    | none => st' = none
def TxtRel (c : Bool) (k : IntKind) (n : Nat) (st : Option (List UInt8)) (s1 : List UInt8) (st2 : Option (List UInt8)) : Prop := match st with
  | none => st2 = none
  | some s => match (cntP c k n s).bind fun x => spanP x.1 x.2 with
    | some y => st2 = some y.2 ∧ s1 = y.1
    | none => st2 = none
end Go.Proofs.Ytmihblfjhoblmaa.Rdk

/- The package's reader at the seat: octets (text printed by tools/octs.py). -/
namespace Go.Proofs.Ytmihblfjhoblmaa.Rdk
open Go Go.RowKit

set_option maxRecDepth 100000
end Go.Proofs.Ytmihblfjhoblmaa.Rdk

/- What is read of what is written: tags, lists. No program in sight. -/
namespace Go.Proofs.Ytmihblfjhoblmaa
open Go Go.RowKit

def Rising (u : List (Nat × List UInt8)) : Prop := u.Pairwise fun a b => a.1 < b.1
theorem putTag_rising (k : Nat) (v : List UInt8) : ∀ (u : List (Nat × List UInt8)), Rising u → Rising (putTag k v u) ∧ ∀ n, (∀ kv ∈ u, n < kv.1) → n < k → ∀ kv ∈ putTag k v u, n < kv.1
  | [], _ => ⟨by simp [putTag, Rising], fun n _ hk kv h => by simp [putTag] at h; subst h; exact hk⟩
  | x :: u, h => by
    have hx := List.pairwise_cons.1 h
    obtain ⟨i1, i2⟩ := putTag_rising k v u hx.2
    simp only [putTag]
    split
    · rename_i hlt
      refine ⟨List.pairwise_cons.2 ⟨fun y hy => i2 x.1 (fun z hz => hx.1 z hz) hlt y hy, i1⟩, fun n hn hk kv hkv => ?_⟩
      rcases List.mem_cons.1 hkv with rfl | hm
      · exact hn _ (by simp)
      · exact i2 n (fun z hz => hn z (by simp [hz])) hk kv hm
    · split
      · exact ⟨h, fun n hn _ => hn⟩
      · rename_i h1 h2
        refine ⟨List.pairwise_cons.2 ⟨fun y hy => ?_, h⟩, fun n hn hk kv hkv => ?_⟩
        · rcases List.mem_cons.1 hy with rfl | hm
          · show k < _; omega
          · have := hx.1 y hm; show k < _; omega
        · rcases List.mem_cons.1 hkv with rfl | hm
          · exact hk
          · exact hn kv hm
theorem unknown_rising (fs : List Fld) (u : List (Nat × List UInt8)) : Rising (unknown fs u) := by
  unfold unknown
  have : ∀ (l : List (Nat × List UInt8)) (out : List (Nat × List UInt8)), Rising out → Rising (l.foldl (fun out kv => if kv.1 < known fs then out else putTag kv.1 kv.2 out) out) := by
    intro l
    induction l with
    | nil => intro out h; exact h
    | cons x l ih =>
      intro out h
      simp only [List.foldl_cons]
      split
      · exact ih out h
      · exact ih _ (putTag_rising x.1 x.2 out h).1
  exact this _ [] (by simp [Rising])
theorem setTag_end (k : Nat) (v : List UInt8) : ∀ (u : List (Nat × List UInt8)), (∀ kv ∈ u, kv.1 < k) → setTag k v u = u ++ [(k, v)]
  | [], _ => rfl
  | x :: u, h => by
    have := h x (by simp)
    simp only [setTag, if_pos this, setTag_end k v u (fun y hy => h y (by simp [hy])), List.cons_append]
def rpN : Rp → Nat
  | .bool => 0 | .i8 => 1 | .i16 => 2 | .i32 => 3 | .i64 => 4 | .u16 => 5 | .uuid => 6 | .str => 7 | .cstr => 8 | .nstr => 9 | .cnstr => 10 | .bytes => 11 | .cbytes => 12 | .nbytes => 13 | .cnbytes => 14
def rpEq (a b : Rp) : Bool := Nat.beq (rpN a) (rpN b)
def ne1 (ver : Int) (fs : List Fld) : Bool := fs.any fun f => f.has ver && decide (f.tag < 0) && !decide (f.kind = 10)
def endR (flex : Bool) (off : Nat) (ra : List Ra) : Option (List Ra) := if flex then (match ra with
  | .tags o :: r => bif Nat.beq o off then some r else none
  | _ => none) else some ra
def isEnd (flex : Bool) (off : Nat) (ra : List Ra) : Bool := match endR flex off ra with
  | some [] => true
  | _ => false
def endsO (flex : Bool) (off : Nat) : Option (List Ra) → Bool
  | some r => isEnd flex off r
  | none => false
def isPrim (p : Rp) : List Ra → Bool
  | [.prim q 0] => rpEq q p
  | _ => false
mutual
/-- Do these acts read the field? -/
def mF (ver : Int) (tg flex : Bool) (off : Nat) : Fld → List Ra → Option (List Ra)
  | .mk kind _ _ nul _ _ of sub, ra =>
    if kind = 11 then (match ra with
      | .row c nb o st dfl body :: r =>
        bif (c == flex) && (nb == decide (0 ≤ nul ∧ nul ≤ ver)) && Nat.beq o off && (st == decide (of = 10)) && decide (shDs (litsD dfl) = shE tg of sub) &&
          (if of = 10 then (flex || ne1 ver sub) && endsO flex (shFs tg sub).length (mFs ver tg flex 0 sub body) else isPrim (rpV of (-1) ver flex) body) then some r else none
      | _ => none)
    else if kind = 10 then (if 0 ≤ nul then none else match mFs ver tg flex off sub ra with | some r => endR flex (off + (shFs tg sub).length) r | none => none)
    else (match ra with
      | .prim p o :: r => bif rpEq p (rpV kind nul ver flex) && Nat.beq o off then some r else none
      | _ => none)
def mFs (ver : Int) (tg flex : Bool) (off : Nat) : List Fld → List Ra → Option (List Ra)
  | [], ra => some ra
  | f :: fs, ra => match (if f.has ver then mF ver tg flex off f ra else some ra) with
    | some r => mFs ver tg flex (off + (shF tg f).length) fs r
    | none => none
end
def mP (ver : Int) (tg flex : Bool) (off : Nat) (fs : List Fld) (ra : List Ra) : Option (List Ra) := match mFs ver tg flex off fs ra with
  | some r => endR flex (off + (shFs tg fs).length) r
  | none => none
end Go.Proofs.Ytmihblfjhoblmaa

/- Tags as a map, and the map's writing. Over any program. -/
namespace Go.Proofs.Ytmihblfjhoblmaa
open Go Go.RowKit

theorem repKs_iff {ok : Nat → Prop} {w : World} {es : Array MapEntry} : ∀ (kvs : List (Nat × D)), RepKs ok w es kvs ↔ ∀ kv ∈ kvs, ∃ e ∈ es, e.key = .int .u32 kv.1 ∧ Rep ok w kv.2 [e.val]
  | [] => by simp [RepKs]
  | kv :: kvs => by simp only [RepKs, repKs_iff kvs, List.mem_cons, forall_eq_or_imp]
theorem mem_setTag {k : Nat} {v : List UInt8} : ∀ {u : List (Nat × List UInt8)}, Rising u → ∀ {kv : Nat × List UInt8}, kv ∈ setTag k v u ↔ kv = (k, v) ∨ (kv ∈ u ∧ kv.1 ≠ k)
  | [], _, kv => by simp [setTag]
  | x :: u, h, kv => by
    have hx := List.pairwise_cons.1 h
    simp only [setTag]
    split
    · rename_i hlt
      simp only [List.mem_cons, mem_setTag hx.2]
      constructor
      · rintro (rfl | rfl | ⟨h1, h2⟩)
        · exact .inr ⟨.inl rfl, by omega⟩
        · exact .inl rfl
        · exact .inr ⟨.inr h1, h2⟩
      · rintro (rfl | ⟨rfl | h1, h2⟩)
        · exact .inr (.inl rfl)
        · exact .inl rfl
        · exact .inr (.inr ⟨h1, h2⟩)
    · split
      · rename_i h1 h2
        simp only [List.mem_cons]
        constructor
        · rintro (rfl | h3)
          · exact .inl rfl
          · exact .inr ⟨.inr h3, by have := hx.1 kv h3; omega⟩
        · rintro (rfl | ⟨rfl | h3, h4⟩)
          · exact .inl rfl
          · exact absurd h2 h4
          · exact .inr h3
      · rename_i h1 h2
        simp only [List.mem_cons]
        constructor
        · rintro (rfl | rfl | h3)
          · exact .inl rfl
          · exact .inr ⟨.inl rfl, h2⟩
          · exact .inr ⟨.inr h3, by have := hx.1 kv h3; omega⟩
        · rintro (rfl | ⟨rfl | h3, _⟩)
          · exact .inl rfl
          · exact .inr (.inl rfl)
          · exact .inr (.inr h3)
theorem setTag_rising {k : Nat} {v : List UInt8} : ∀ {u : List (Nat × List UInt8)}, Rising u → Rising (setTag k v u)
  | [], _ => by simp [setTag, Rising]
  | x :: u, h => by
    have hx := List.pairwise_cons.1 h
    simp only [setTag]
    split
    · rename_i hlt
      refine List.pairwise_cons.2 ⟨fun y hy => ?_, setTag_rising hx.2⟩
      rcases (mem_setTag hx.2).1 hy with rfl | ⟨h1, _⟩
      · exact hlt
      · exact hx.1 y h1
    · split
      · rename_i h1 h2
        exact List.pairwise_cons.2 ⟨fun y hy => by have := hx.1 y hy; show k < _; omega, hx.2⟩
      · rename_i h1 h2
        refine List.pairwise_cons.2 ⟨fun y hy => ?_, h⟩
        rcases List.mem_cons.1 hy with rfl | hm
        · show k < _; omega
        · have := hx.1 y hm; show k < _; omega
theorem setTag_length {k : Nat} {v : List UInt8} : ∀ {u : List (Nat × List UInt8)}, Rising u → (setTag k v u).length = if k ∈ u.map (·.1) then u.length else u.length + 1
  | [], _ => by simp [setTag]
  | x :: u, h => by
    have hx := List.pairwise_cons.1 h
    have ih := setTag_length (k := k) (v := v) hx.2
    simp only [setTag]
    split
    · rename_i hlt
      simp only [List.length_cons, ih, List.map_cons, List.mem_cons]
      have : (k = x.1 ∨ k ∈ u.map (·.1)) ↔ k ∈ u.map (·.1) := by
        constructor
        · rintro (h | h)
          · omega
          · exact h
        · exact .inr
      simp only [this]
      split <;> rfl
    · split
      · rename_i h1 h2
        rw [if_pos (by simp [h2])]; simp
      · rename_i h1 h2
        rw [if_neg ?_]
        · simp
        · simp only [List.map_cons, List.mem_cons, List.mem_map, not_or, not_exists, not_and]
          refine ⟨fun e => h2 e.symm, fun y hy e => ?_⟩
          have := hx.1 y hy
          omega
section
variable {P : Program} {w : World} {mty kt et : TypeId} {r clock : Nat} {es : Array MapEntry} {ks : List Nat}
theorem run_mapUpd (hm : P.underlying mty = some (.map kt et)) (hd : P.underlying kt = some (.int .u32)) (hb : w.heap[r]? = some (.map es clock)) (hmap : Mapped es clock ks) (hin : ∀ k ∈ ks, ∃ e ∈ es, e.key = .int .u32 k) (key : Nat) (val : Value) :
    ∃ w' es' clock', (Instr.mapUpdate mty (.map (some r)) (.int .u32 key) val).run P w = .ok () w' ∧ w'.heap[r]? = some (.map es' clock') ∧ Chg (· = r) w w' ∧ w'.heap.size = w.heap.size ∧ MapKept.Stamped es' clock' ∧
      ((key ∉ ks ∧ es' = es.push { key := .int .u32 key, val := val, born := clock }) ∨ (key ∈ ks ∧ ∃ j e, es[j]? = some e ∧ e.key = .int .u32 key ∧ es' = es.modify j fun e => { e with key := .int .u32 key, val := val })) := by
  obtain ⟨h1, h2, h3, _⟩ := hmap
  have hk : MapKept.IsKey (.int .u32) (.int .u32 (key : Int)) := rfl
  have hks : ∀ x ∈ es.toList, MapKept.IsKey (.int .u32) x.key := fun x hx => by
    obtain ⟨k, _, e⟩ := h3 x hx
    rw [e]; rfl
  have chg : ∀ o, Chg (· = r) w { w with heap := w.heap.setIfInBounds r o } := fun o => ⟨rfl, rfl, rfl, by simp, fun k _ hne => (MapKept.heap_set hb).2 k hne⟩
  rcases MapKept.findNow_spec hk es.toList 0 hks with ⟨g1, g2⟩ | ⟨j, e, g1, g2, g3⟩
  · refine ⟨_, es.push { key := .int .u32 key, val := val, born := clock }, clock + 1, ?_, (MapKept.heap_set hb).1, chg _, by simp, MapKept.stamped_push h2 g2, .inl ⟨fun hin' => ?_, rfl⟩⟩
    · simp [Instr.mapUpdate, run_underlying hm, MapKept.run_getObj_map hb, MapKept.run_checkKey hd hk, MapKept.run_findKey hd g1, MapKept.run_setObj_map _ hb, Result.andThen]
    · obtain ⟨x, hx, e⟩ := hin key hin'
      exact g2 x (Array.mem_toList_iff.2 hx) e
  · have hj : es[j]? = some e := by simpa using g2
    refine ⟨_, es.modify j fun e => { e with key := .int .u32 key, val := val }, clock, ?_, (MapKept.heap_set hb).1, chg _, by simp, ?_, .inr ⟨?_, j, e, hj, g3, rfl⟩⟩
    · simp [Instr.mapUpdate, run_underlying hm, MapKept.run_getObj_map hb, MapKept.run_checkKey hd hk, MapKept.run_findKey hd g1, hj, g3, MapKept.run_keyThatStays hk, MapKept.run_setObj_map _ hb, Result.andThen]
    · exact MapKept.stamped_modify h2 _ _ (fun _ _ => rfl) (fun e' _ he' => by rw [hj] at he'; cases he'; exact g3.symm)
    · obtain ⟨k, hk', e'⟩ := h3 e (Array.mem_toList_iff.2 (Array.mem_of_getElem? hj))
      rw [g3] at e'
      simp only [Value.int.injEq, true_and] at e'
      have : key = k := by omega
      rw [this]; exact hk'
/-- Tags in a map's block; their octets lie in the block sb. -/
structure TagMap (w : World) (sb r : Nat) (u : List (Nat × List UInt8)) : Prop where
  at_ : ∃ es clock, w.heap[r]? = some (.map es clock) ∧ Mapped es clock (u.map (·.1)) ∧ RepKs (fun b => b = sb) w es (u.map fun kv => (kv.1, bytesD kv.2))
  up : Rising u
theorem TagMap.keep {w w' : World} {S : Nat → Prop} {sb r : Nat} {u : List (Nat × List UInt8)} (h : TagMap w sb r u) (hc : Chg S w w') (hr : ¬ S r) (hs : ¬ S sb) (hsb : sb < w.heap.size) : TagMap w' sb r u := by
  obtain ⟨⟨es, clock, hb, hm, hk⟩, hu⟩ := h
  have hlt : r < w.heap.size := (Array.getElem?_eq_some_iff.1 hb).1
  exact ⟨⟨es, clock, (hc.block r hlt hr).trans hb, hm, RepKs.mono (fun b hb => ⟨hb, by subst hb; exact hc.block b hsb hs⟩) es _ hk⟩, hu⟩
theorem src_rep {w : World} {sb : Nat} {v : Value} {s : List UInt8} (h : SrcV w sb v s) : Rep (fun b => b = sb) w (bytesD s) [v] := by
  simp only [bytesD, Rep, List.length_map]
  rcases h with ⟨rfl, rfl⟩ | ⟨o, c, rfl, hle, hcs⟩
  · exact ⟨none, 0, rfl, Nat.le_refl _, .inl rfl⟩
  · exact ⟨_, c, rfl, hle, .inr ⟨sb, o, bv s, rfl, rfl, hcs, (reps_bytes s _).2 rfl⟩⟩
theorem run_tagSet (hm : P.underlying mty = some (.map kt et)) (hd : P.underlying kt = some (.int .u32)) {sb : Nat} {u : List (Nat × List UInt8)} (h : TagMap w sb r u) (hne : r ≠ sb) (hsb : sb < w.heap.size) (key : Nat) {val : Value} {s : List UInt8} (hv : SrcV w sb val s) :
    ∃ w', (Instr.mapUpdate mty (.map (some r)) (.int .u32 key) val).run P w = .ok () w' ∧ Chg (· = r) w w' ∧ w'.heap.size = w.heap.size ∧ TagMap w' sb r (setTag key s u) := by
  obtain ⟨⟨es, clock, hb, hmap, hk⟩, hu⟩ := h
  rw [repKs_iff] at hk
  have hk' : ∀ kv ∈ u, ∃ e ∈ es, e.key = .int .u32 kv.1 ∧ Rep (fun b => b = sb) w (bytesD kv.2) [e.val] := fun kv hkv => hk (kv.1, bytesD kv.2) (List.mem_map.2 ⟨kv, hkv, rfl⟩)
  obtain ⟨w', es', clock', hrun, hb', hc, hsz, hst, hcase⟩ := run_mapUpd hm hd hb hmap (fun k hk0 => by
    obtain ⟨kv, hkv, rfl⟩ := List.mem_map.1 hk0
    obtain ⟨e, he, h1, _⟩ := hk' kv hkv
    exact ⟨e, he, h1⟩) key val
  have keep : ∀ {d : D} {cs : List Value}, Rep (fun b => b = sb) w d cs → Rep (fun b => b = sb) w' d cs := fun hr => Rep.mono (fun b hb => ⟨hb, by subst hb; exact hc.block b hsb (fun e => hne e.symm)⟩) _ _ hr
  have hnew : Rep (fun b => b = sb) w' (bytesD s) [val] := keep (src_rep hv)
  have hlen := setTag_length (k := key) (v := s) hu
  refine ⟨w', hrun, hc, hsz, ⟨⟨es', clock', hb', ⟨?_, hst, ?_, List.pairwise_map.2 (setTag_rising hu)⟩, ?_⟩, setTag_rising hu⟩⟩
  · rw [List.length_map, hlen]
    rcases hcase with ⟨hni, rfl⟩ | ⟨hin, j, e, _, _, rfl⟩
    · rw [if_neg hni, Array.size_push, hmap.1, List.length_map]
    · rw [if_pos hin, Array.size_modify, hmap.1, List.length_map]
  · intro e he
    rcases hcase with ⟨hni, rfl⟩ | ⟨hin, j, e0, hj, hj2, rfl⟩
    · simp only [Array.toList_push, List.mem_append, List.mem_singleton] at he
      rcases he with he | rfl
      · obtain ⟨k, hk0, e1⟩ := hmap.2.2.1 e he
        obtain ⟨kv, hkv, rfl⟩ := List.mem_map.1 hk0
        refine ⟨kv.1, List.mem_map.2 ⟨kv, (mem_setTag hu).2 (.inr ⟨hkv, fun e2 => hni (by rw [← e2]; exact hk0)⟩), rfl⟩, e1⟩
      · exact ⟨key, List.mem_map.2 ⟨(key, s), (mem_setTag hu).2 (.inl rfl), rfl⟩, rfl⟩
    · have hkeys := MapKept.modify_keys (es := es) j (fun e => { e with key := .int .u32 key, val := val }) (fun e' he' => by rw [hj] at he'; cases he'; exact hj2.symm)
      have : e.key ∈ (es.modify j fun e => { e with key := .int .u32 key, val := val }).toList.map (·.key) := List.mem_map.2 ⟨e, he, rfl⟩
      rw [hkeys] at this
      obtain ⟨y, hy, e1⟩ := List.mem_map.1 this
      obtain ⟨k, hk0, e2⟩ := hmap.2.2.1 y hy
      obtain ⟨kv, hkv, rfl⟩ := List.mem_map.1 hk0
      by_cases hkk : kv.1 = key
      · exact ⟨key, List.mem_map.2 ⟨(key, s), (mem_setTag hu).2 (.inl rfl), rfl⟩, by rw [← e1, e2, hkk]⟩
      · exact ⟨kv.1, List.mem_map.2 ⟨kv, (mem_setTag hu).2 (.inr ⟨hkv, hkk⟩), rfl⟩, by rw [← e1, e2]⟩
  · rw [repKs_iff]
    intro kvd hkvd
    obtain ⟨kv, hkv, rfl⟩ := List.mem_map.1 hkvd
    rcases (mem_setTag hu).1 hkv with rfl | ⟨hold, hkne⟩
    · rcases hcase with ⟨hni, rfl⟩ | ⟨hin, j, e0, hj, hj2, rfl⟩
      · exact ⟨_, Array.mem_push_self, rfl, hnew⟩
      · refine ⟨{ e0 with key := .int .u32 key, val := val }, ?_, rfl, hnew⟩
        have hlt := (Array.getElem?_eq_some_iff.1 hj).1
        refine Array.mem_of_getElem? (i := j) ?_
        rw [Array.getElem?_modify, if_pos rfl, hj]; rfl
    · obtain ⟨e, he, h1, h2⟩ := hk' kv hold
      rcases hcase with ⟨hni, rfl⟩ | ⟨hin, j, e0, hj, hj2, rfl⟩
      · exact ⟨e, Array.mem_push_of_mem _ he, h1, keep h2⟩
      · obtain ⟨i, hi⟩ := Array.mem_iff_getElem?.1 he
        have hij : j ≠ i := by
          rintro rfl
          rw [hj] at hi
          simp only [Option.some.injEq] at hi
          subst hi
          rw [hj2] at h1
          simp only [Value.int.injEq, true_and] at h1
          exact hkne (by omega)
        refine ⟨e, Array.mem_of_getElem? (i := i) ?_, h1, keep h2⟩
        rw [Array.getElem?_modify, if_neg hij]; exact hi
/-- A map with no entry yet. -/
theorem tagMap_new (w : World) (sb : Nat) : TagMap (w.alloc (.map #[] 0)) sb w.heap.size [] := ⟨⟨#[], 0, heap_alloc_new w _, ⟨rfl, MapKept.stamped_empty 0, by simp, by simp⟩, by simp [RepKs]⟩, by simp [Rising]⟩
theorem TagMap.rep {w : World} {sb r lo : Nat} {u : List (Nat × List UInt8)} (h : TagMap w sb r u) (hr : lo ≤ r) (hsb : sb < w.heap.size) : Rep (Dk sb lo w) w (tagsK u) [.map (some r)] := by
  obtain ⟨⟨es, clock, hb, hm, hk⟩, hu⟩ := h
  have hlt : r < w.heap.size := (Array.getElem?_eq_some_iff.1 hb).1
  simp only [tagsK, Rep]
  refine .inr ⟨r, es, clock, rfl, ⟨.inr hr, hlt⟩, hb, ?_, RepKs.mono (fun b hb => ⟨by subst hb; exact ⟨.inl rfl, hsb⟩, rfl⟩) es _ hk⟩
  rw [List.map_map]
  exact hm
end
end Go.Proofs.Ytmihblfjhoblmaa

/- Tags.Set, internalReadTags at the seat. -/
namespace Go.Proofs.Ytmihblfjhoblmaa.Rdk
open Go Go.RowKit

set_option maxRecDepth 100000
section
variable {P : Program} {ops : Array Oper} {Q : Exit → Act → World → Prop} {N : Nat} {rest : List Oper} {L : Sl} {w : World} {d : Nat} {ty : TypeId} {pos : String} {aft : Array Edge}
theorem wl_mapNil {x : Operand} {t u : TypeId} {m : Option Nat} (hx : ev L x = some (.map m)) (ht : (match P.underlying t with | some (.map _ _) => true | _ => false) = true) (hd : Nat.blt d N = true) (h : WL rest P ops Q N ((d, .bool m.isNone) :: L) w) :
    WL (⟨some d, .binOp .eql t x (.const (.map none)) u, ty, pos, aft, none⟩ :: rest) P ops Q N L w := by
  intro a k
  split at ht
  · rename_i kt et hu
    refine st_of (o := ⟨some d, .binOp .eql t x (.const (.map none)) u, ty, pos, aft, none⟩) (v := .bool m.isNone) (w' := w) rfl ?_ (h _ (k.put _ hd))
    simp only [execOp, k.eval hx, eval_const]
    have h : ∀ d : Nat, (Op.equalIn (d + 1) t (.map m) (.map none)).run P w = .ok m.isNone w := fun d => by
      cases m <;> simp [Op.equalIn, run_underlying hu]
    simp only [eqGuard, binOp]
    simp [Op.equal, Op.maxDepth, h 9999]
  · cases ht
theorem wl_makeMap {t : TypeId} (hd : Nat.blt d N = true) (h : WL rest P ops Q N ((d, .map (some w.heap.size)) :: L) (w.alloc (.map #[] 0))) : WL (⟨some d, .makeMap t none, ty, pos, aft, none⟩ :: rest) P ops Q N L w := by
  intro a k
  refine st_of (o := ⟨some d, .makeMap t none, ty, pos, aft, none⟩) (v := .map (some w.heap.size)) rfl ?_ (h _ (k.put _ hd))
  simp [execOp, run_makeMap]
theorem wl_mapUpd {x y z : Operand} {t : TypeId} {m kk v : Value} {w' : World} (hx : ev L x = some m) (hy : ev L y = some kk) (hz : ev L z = some v) (hr : (Instr.mapUpdate t m kk v).run P w = .ok () w') (h : WL rest P ops Q N L w') :
    WL (⟨none, .mapUpdate t x y z, ty, pos, aft, none⟩ :: rest) P ops Q N L w := by
  intro a k
  refine st_of_skip (o := ⟨none, .mapUpdate t x y z, ty, pos, aft, none⟩) (w' := w') rfl ?_ (h _ k)
  simp [execOp, k.eval hx, k.eval hy, k.eval hz, hr]
end
def tblT : Tbl := ⟨[(56, 0, 0)], []⟩
theorem tblT_ok : tblT.ok Try.prog = true := by kernel_rfl
theorem wt {ops : Array Oper} {Q : Exit → Act → World → Prop} {N : Nat} {rest : List Oper} {L : Sl} {w : World} {d : Nat} {ty : TypeId} {pos : String} {aft : Array Edge} {o : Op} {v : Value}
    (hs : stepOp tblT L o = some v) (hd : Nat.blt d N = true) (h : WL rest Try.prog ops Q N ((d, v) :: L) w) : WL (⟨some d, o, ty, pos, aft, none⟩ :: rest) Try.prog ops Q N L w := wl_step tblT tblT_ok hs hd h
theorem um : Try.prog.underlying 54 = some (.map 62 22) := by kernel_rfl
theorem uk : Try.prog.underlying 62 = some (.int .u32) := by kernel_rfl
theorem to_map : tyOne Try.prog 54 = true := by kernel_rfl
/-- What a Tags' cell says. -/
def TagsAt (w : World) (sb lo : Nat) (m : Value) (u : List (Nat × List UInt8)) : Prop := (m = .map none ∧ u = []) ∨ ∃ r, m = .map (some r) ∧ lo ≤ r ∧ TagMap w sb r u
theorem TagsAt.keep {w w' : World} {S : Nat → Prop} {sb lo : Nat} {m : Value} {u : List (Nat × List UInt8)} (h : TagsAt w sb lo m u) (hc : Chg S w w') (hr : ∀ r, lo ≤ r → r < w.heap.size → ¬ S r) (hs : ¬ S sb) (hsb : sb < w.heap.size) : TagsAt w' sb lo m u := by
  rcases h with h | ⟨r, rfl, hlo, ht⟩
  · exact .inl h
  · have hlt : r < w.heap.size := by
      obtain ⟨⟨es, clock, hb, _⟩, _⟩ := ht
      exact (Array.getElem?_eq_some_iff.1 hb).1
    exact .inr ⟨r, rfl, hlo, ht.keep hc (hr r hlo hlt) hs hsb⟩
theorem fn_set (w : World) (tb sb lo key : Nat) (val m : Value) (u : List (Nat × List UInt8)) (e : TypeId) (s : List UInt8) (hb : Box w tb [m] e) (ht : TagsAt w sb lo m u) (hv : SrcV w sb val s) (h1 : tb < lo) (h2 : sb < lo) (h3 : lo ≤ w.heap.size) (h4 : tb ≠ sb) :
    Calls Try.prog 82 #[.pointer (some ⟨tb, 0, none⟩), .int .u32 key, val] w fun en w' => en = .returned (.tuple #[]) ∧ ∃ m', Box w' tb [m'] e ∧ TagsAt w' sb lo m' (setTag key s u) ∧ Chg (fun j => j = tb ∨ lo ≤ j) w w' := by
  refine enter Try.func82 rfl Try.ntmps82 rfl ?_
  have upd : ∀ (w1 : World) (r : Nat) (u1 : List (Nat × List UInt8)), Box w1 tb [.map (some r)] e → lo ≤ r → TagMap w1 sb r u1 → SrcV w1 sb val s → sb < w1.heap.size → Chg (fun j => j = tb ∨ lo ≤ j) w w1 → setTag key s u1 = setTag key s u →
      ∃ w', (Instr.mapUpdate 54 (.map (some r)) (.int .u32 key) val).run Try.prog w1 = .ok () w' ∧ (∃ m', Box w' tb [m'] e ∧ TagsAt w' sb lo m' (setTag key s u) ∧ Chg (fun j => j = tb ∨ lo ≤ j) w w') := by
    intro w1 r u1 hb1 hr htm hv1 hsb hc heq
    obtain ⟨w', hrun, hc', _, ht'⟩ := run_tagSet um uk htm (by omega) hsb key hv1
    exact ⟨w', hrun, _, hb1.chg hc' (by show tb ≠ r; omega), .inr ⟨r, rfl, hr, by rw [← heq]; exact ht'⟩, hc.trans (hc'.wide (fun j hj => .inr (by have : j = r := hj; omega)))⟩
  rcases ht with ⟨rfl, rfl⟩ | ⟨r, rfl, hr, htm⟩
  · refine wc_seq (wc_seq (wc_region ?_))
    refine wt rfl rfl ?_
    refine wt rfl rfl ?_
    refine wt rfl rfl ?_
    refine wl_loadB rfl to_map rfl hb rfl ?_
    refine wl_mapNil rfl (by kernel_rfl) rfl ?_
    refine wl_nil (qk_thn (wc_yes rfl rfl (wc_region ?_)))
    refine wt rfl rfl ?_
    refine wl_makeMap rfl ?_
    have hal : Chg (fun _ => False) w (w.alloc (.map #[] 0)) := chg_alloc w _ _
    have hnew := tagMap_new w sb
    have hb1 := hb.chg hal id
    have hs1 : (w.alloc (.map #[] 0)).heap.size = w.heap.size + 1 := by simp
    have hv1 := hv.chg hal id
    generalize w.alloc (.map #[] 0) = w1 at *
    refine wt rfl rfl ?_
    refine wt rfl rfl ?_
    refine wl_storeB rfl rfl to_map rfl hb1 rfl (fun w2 hb2 hg2 hs2 => ?_)
    have hc2 := Chg.grown hg2
    have hne : ∀ j : Nat, (fun j => j = tb) j → j ≠ w.heap.size := fun j hj => by have : j = tb := hj; omega
    obtain ⟨w3, hrun, m', hb3, ht3, hc3⟩ := upd w2 w.heap.size [] hb2 h3 (hnew.keep hc2 (fun e => by have : w.heap.size = tb := e; omega) (fun e => h4 e.symm) (by omega)) (hv1.chg hc2 (fun e => h4 e.symm)) (by omega) ((hal.wide (fun _ h => h.elim)).trans (hc2.wide (fun j hj => .inl hj))) rfl
    refine wl_nil (qk_thn (wc_region ?_))
    refine wt rfl rfl ?_
    refine wt rfl rfl ?_
    refine wt rfl rfl ?_
    refine wl_loadB rfl to_map rfl hb2 rfl ?_
    refine wt rfl rfl ?_
    refine wt rfl rfl ?_
    refine wl_mapUpd rfl rfl rfl hrun ?_
    exact wl_nil (qk_end0 rfl ⟨rfl, m', hb3, ht3, hc3⟩)
  · obtain ⟨w3, hrun, m', hb3, ht3, hc3⟩ := upd w r u hb hr htm hv (by omega) (Chg.refl _ _) rfl
    refine wc_seq (wc_seq (wc_region ?_))
    refine wt rfl rfl ?_
    refine wt rfl rfl ?_
    refine wt rfl rfl ?_
    refine wl_loadB rfl to_map rfl hb rfl ?_
    refine wl_mapNil rfl (by kernel_rfl) rfl ?_
    refine wl_nil (qk_thn (wc_no rfl rfl (wc_skip (qk_thn (wc_region ?_)))))
    refine wt rfl rfl ?_
    refine wt rfl rfl ?_
    refine wt rfl rfl ?_
    refine wl_loadB rfl to_map rfl hb rfl ?_
    refine wt rfl rfl ?_
    refine wt rfl rfl ?_
    refine wl_mapUpd rfl rfl rfl hrun ?_
    exact wl_nil (qk_end0 rfl ⟨rfl, m', hb3, ht3, hc3⟩)
end Go.Proofs.Ytmihblfjhoblmaa.Rdk

/- The package's functions that append: what each adds to the bytes that the call owns. -/
namespace Go.Proofs.Ytmihblfjhoblmaa
open Go Go.RowKit

/-- The function F, called with a slice that the call owns and the arguments vs, adds the bytes ys; 'pre' is what must hold of the world. -/
def AppW (F : FuncId) (vs : List Value) (pre : World → Nat → Prop) (ys : List UInt8) : Prop :=
  ∀ (d : Value) (w : World) (B : Nat) (xs : List UInt8), pre w B → Own w B 5 d xs → B ≤ w.heap.size → xs.length + ys.length ≤ lim →
    Calls Try.prog F (d :: vs).toArray w fun e w' => ∃ d', e = .returned d' ∧ Own w' B 5 d' (xs ++ ys) ∧ Grew w w' d d'
def App (F : FuncId) (vs : List Value) (ys : List UInt8) : Prop := AppW F vs (fun _ _ => True) ys

theorem u32_bytes (u : Int) : [Value.int .u8 (IntKind.u8.wrap (u.fdiv (2 ^ (min (24 : Int).toNat IntKind.u32.bits)))), .int .u8 (IntKind.u8.wrap (u.fdiv (2 ^ (min (16 : Int).toNat IntKind.u32.bits)))), .int .u8 (IntKind.u8.wrap (u.fdiv (2 ^ (min (8 : Int).toNat IntKind.u32.bits)))), .int .u8 (IntKind.u8.wrap u)] = bv (be 4 u) := by
  simp only [wrap_u8, be, bv, List.map_cons, List.map_nil]
  simp [IntKind.bits, Int.fdiv_eq_ediv_of_nonneg]
theorem u16_bytes (u : Int) : [Value.int .u8 (IntKind.u8.wrap (u.fdiv (2 ^ (min (8 : Int).toNat IntKind.u16.bits)))), .int .u8 (IntKind.u8.wrap u)] = bv (be 2 u) := by
  simp only [wrap_u8, be, bv, List.map_cons, List.map_nil]
  simp [IntKind.bits, Int.fdiv_eq_ediv_of_nonneg]
section
set_option maxRecDepth 100000
theorem appendUint32 (u : Int) : App 123 [.int .u32 u] (be 4 u) := by
  intro d w B xs _ hown hB hlim
  refine enter Try.func123 rfl Try.ntmps123 rfl ?_
  refine wc_seq (wc_region (wl_assign rfl rfl (wl_nil (qk_thn ?_))))
  refine wc_seq (wc_region ?_)
  repeat (first
    | refine wl_move rfl rfl ?_
    | refine wl_shr rfl rfl rfl rfl ?_
    | refine wl_conv .u8 rfl (by kernel_rfl) (by kernel_rfl) rfl rfl ?_)
  refine wl_appLit (by kernel_rfl) rfl (u32_bytes u) rfl rfl rfl rfl rfl hown hB hlim (fun d' w' ho hg => ?_)
  refine wl_assign rfl rfl (wl_nil (qk_thn ?_))
  exact wc_ret (qk_ret1 rfl rfl ⟨d', rfl, ho, hg⟩)
theorem appendUint16 (u : Int) : App 115 [.int .u16 u] (be 2 u) := by
  intro d w B xs _ hown hB hlim
  refine enter Try.func115 rfl Try.ntmps115 rfl ?_
  refine wc_seq (wc_region (wl_assign rfl rfl (wl_nil (qk_thn ?_))))
  refine wc_seq (wc_region ?_)
  repeat (first
    | refine wl_move rfl rfl ?_
    | refine wl_shr rfl rfl rfl rfl ?_
    | refine wl_conv .u8 rfl (by kernel_rfl) (by kernel_rfl) rfl rfl ?_)
  refine wl_appLit (by kernel_rfl) rfl (u16_bytes u) rfl rfl rfl rfl rfl hown hB hlim (fun d' w' ho hg => ?_)
  refine wl_assign rfl rfl (wl_nil (qk_thn ?_))
  exact wc_ret (qk_ret1 rfl rfl ⟨d', rfl, ho, hg⟩)
theorem appendInt32 (u : Int) : App 90 [.int .i32 u] (be 4 u) := by
  intro d w B xs _ hown hB hlim
  refine enter Try.func90 rfl Try.ntmps90 rfl ?_
  refine wc_seq (wc_region (wl_assign rfl rfl (wl_nil (qk_thn ?_))))
  refine wc_seq (wc_region ?_)
  repeat (first
    | refine wl_move rfl rfl ?_
    | refine wl_conv .u32 rfl (by kernel_rfl) (by kernel_rfl) rfl rfl ?_)
  have hb : be 4 (IntKind.u32.wrap u) = be 4 u := by rw [IntKind.wrap_u32]; exact be_mod 4 32 u (by omega)
  refine wl_call rfl (by kernel_rfl) rfl ((appendUint32 (IntKind.u32.wrap u) d w B xs trivial hown hB (by rw [hb]; exact hlim)).mono ?_)
  rintro e w' ⟨d', rfl, ho, hg⟩
  rw [hb] at ho
  refine ⟨d', rfl, wl_assign rfl rfl (wl_nil (qk_thn ?_))⟩
  exact wc_ret (qk_ret1 rfl rfl ⟨d', rfl, ho, hg⟩)
end
end Go.Proofs.Ytmihblfjhoblmaa

/- How many groups of seven bits a number has, and the function that appends it so. -/

namespace Go.Proofs.Ytmihblfjhoblmaa
open Go Go.RowKit

def tabOk (s : ByteArray) (n : Nat) (f : Nat → Nat → Bool) : Bool := (List.range n).all fun i => match s.data[i]? with | some c => f i c.toNat | none => false
section
variable {P : Program} {ops : Array Oper} {Q : Exit → Act → World → Prop} {N : Nat} {rest : List Oper} {L : Sl} {w : World} {d : Nat} {ty : TypeId} {pos : String} {aft : Array Edge}
theorem wl_tab {x y : Operand} {t : TypeId} {s : ByteArray} {kk : IntKind} {m : Int} (i n : Nat) (f : Nat → Nat → Bool) (hx : ev L x = some (.string s)) (hy : ev L y = some (.int kk m)) (ht : (match P.underlying t with | some .string => true | _ => false) = true) (hd : Nat.blt d N = true)
    (hm : m = (i : Int)) (hi : i < n) (hs : tabOk s n f = true) (h : ∀ c : Nat, f i c = true → WL rest P ops Q N ((d, .int .u8 (c : Int)) :: L) w) :
    WL (⟨some d, .index t x y, ty, pos, aft, none⟩ :: rest) P ops Q N L w := by
  unfold tabOk at hs
  have h1 := List.all_eq_true.1 hs i (List.mem_range.2 hi)
  cases hc : s.data[i]? with
  | none => rw [hc] at h1; cases h1
  | some c => rw [hc] at h1; exact wl_index hx hy ht hd hm hc (h c.toNat h1)
end
/-- c is the number of bits of i. -/
def bitsAre (i c : Nat) : Bool := decide (i < 2 ^ c) && decide (c = 0 ∨ 2 ^ (c - 1) ≤ i) && decide (c ≤ 8)
def groupsAre (i c : Nat) : Bool := if i ≤ 7 then c == 1 else if i ≤ 14 then c == 2 else if i ≤ 21 then c == 3 else if i ≤ 28 then c == 4 else c == 5
theorem bits_up (x c s : Nat) (u : Nat) (h : bitsAre x c = true) (hx : x = u / 2 ^ s) (hp : 0 < x) : u < 2 ^ (c + s) ∧ 2 ^ (c + s - 1) ≤ u ∧ 0 < c ∧ c ≤ 8 := by
  simp only [bitsAre, Bool.and_eq_true, decide_eq_true_eq] at h
  obtain ⟨⟨h1, h2⟩, h3⟩ := h
  have hc : 0 < c := by rcases Nat.eq_zero_or_pos c with rfl | h; · simp at h1; omega
                        · exact h
  have hs := Nat.two_pow_pos s
  refine ⟨?_, ?_, hc, h3⟩
  · rw [Nat.pow_add]
    exact (Nat.div_lt_iff_lt_mul hs).1 (hx ▸ h1)
  · have h4 : 2 ^ (c - 1) ≤ u / 2 ^ s := by rw [← hx]; omega
    have := (Nat.le_div_iff_mul_le hs).1 h4
    rw [← Nat.pow_add] at this
    rw [show c + s - 1 = c - 1 + s from by omega]; exact this

section
set_option maxRecDepth 100000
/-- The bits of a number: r of them. -/
def BitsOf (u r : Nat) : Prop := u < 2 ^ r ∧ (r = 0 ∨ 2 ^ (r - 1) ≤ u) ∧ r ≤ 32
theorem len32 (u : Nat) (hu : u < 4294967296) (w : World) : Calls Try.prog 133 #[.int .u32 (u : Int)] w fun e w' => (∃ r : Nat, e = .returned (.int .i64 (r : Int)) ∧ BitsOf u r) ∧ w' = w := by
  refine enter (vs := [.int .u32 (u : Int)]) Try.func133 rfl Try.ntmps133 rfl ?_
  refine wc_seq (wc_region (wl_assign rfl rfl (wl_nil (qk_thn ?_))))
  refine wc_seq (wc_seq (wc_region ?_))
  repeat first|((with_reducible apply ws);exact rfl;exact rfl)|((with_reducible apply wl_yes);exact rfl;exact rfl;exact rfl)|((with_reducible apply wl_no);exact rfl;exact rfl;exact rfl;exact rfl)|((with_reducible apply wl_noU);exact rfl;exact rfl;exact rfl)
  refine wl_nil (qk_thn ?_)
  by_cases h16 : 65536 ≤ u
  · refine wc_yes rfl (by simp; omega) ?_
    refine wc_seq (wc_region ?_)
    refine wl_move rfl rfl (wl_shr rfl rfl rfl (shr_nat u 16 32 (by omega)) (wl_assign rfl rfl (wl_nil (qk_thn (wc_region (wl_assign rfl rfl (wl_nil (qk_thn ?_))))))))
    refine wc_seq (wc_seq (wc_region ?_))
    repeat first|((with_reducible apply ws);exact rfl;exact rfl)|((with_reducible apply wl_yes);exact rfl;exact rfl;exact rfl)|((with_reducible apply wl_no);exact rfl;exact rfl;exact rfl;exact rfl)|((with_reducible apply wl_noU);exact rfl;exact rfl;exact rfl)
    refine wl_nil (qk_thn ?_)
    by_cases h24 : 256 ≤ u / 2 ^ 16
    · refine wc_yes rfl (by simp; omega) ?_
      refine wc_seq (wc_region ?_)
      refine wl_move rfl rfl (wl_shr rfl rfl rfl (shr_nat (u / 2 ^ 16) 8 32 (by omega)) (wl_assign rfl rfl (wl_nil (qk_thn (wc_region (wl_move rfl rfl (wl_add rfl rfl rfl (r := 24) (by decide) (wl_assign rfl rfl (wl_nil (qk_thn ?_))))))))))
      refine wc_seq (wc_region ?_)
      refine wl_move rfl rfl (wl_move rfl rfl (wl_conv .u8 rfl (by kernel_rfl) (by kernel_rfl) rfl (r := ((u / 2 ^ 16 / 2 ^ 8 : Nat) : Int)) (by rw [IntKind.wrap_u8]; omega) ?_))
      refine wl_tab (u / 2 ^ 16 / 2 ^ 8) 256 bitsAre rfl rfl (by kernel_rfl) rfl rfl (by omega) (by kernel_rfl) (fun c hc => ?_)
      obtain ⟨b1, b2, b3, b4⟩ := bits_up _ c 24 u hc (by rw [Nat.div_div_eq_div_mul]) (by omega)
      refine wl_conv .i64 rfl (by kernel_rfl) (by kernel_rfl) rfl (r := (c : Int)) (by rw [IntKind.wrap_i64]; omega) ?_
      refine wl_add rfl rfl rfl (r := ((c + 24 : Nat) : Int)) (by rw [IntKind.wrap_i64]; omega) (wl_assign rfl rfl (wl_nil (qk_thn ?_)))
      exact wc_ret (qk_ret1 rfl rfl ⟨⟨_, rfl, b1, .inr b2, by omega⟩, rfl⟩)
    · refine wc_no rfl (by simp; omega) (wc_skip (qk_thn ?_))
      refine wc_seq (wc_region ?_)
      refine wl_move rfl rfl (wl_move rfl rfl (wl_conv .u8 rfl (by kernel_rfl) (by kernel_rfl) rfl (r := ((u / 2 ^ 16 : Nat) : Int)) (by rw [IntKind.wrap_u8]; omega) ?_))
      refine wl_tab (u / 2 ^ 16) 256 bitsAre rfl rfl (by kernel_rfl) rfl rfl (by omega) (by kernel_rfl) (fun c hc => ?_)
      obtain ⟨b1, b2, b3, b4⟩ := bits_up _ c 16 u hc rfl (by omega)
      refine wl_conv .i64 rfl (by kernel_rfl) (by kernel_rfl) rfl (r := (c : Int)) (by rw [IntKind.wrap_i64]; omega) ?_
      refine wl_add rfl rfl rfl (r := ((c + 16 : Nat) : Int)) (by rw [IntKind.wrap_i64]; omega) (wl_assign rfl rfl (wl_nil (qk_thn ?_)))
      exact wc_ret (qk_ret1 rfl rfl ⟨⟨_, rfl, b1, .inr b2, by omega⟩, rfl⟩)
  · refine wc_no rfl (by simp; omega) (wc_skip (qk_thn ?_))
    refine wc_seq (wc_seq (wc_region ?_))
    repeat first|((with_reducible apply ws);exact rfl;exact rfl)|((with_reducible apply wl_yes);exact rfl;exact rfl;exact rfl)|((with_reducible apply wl_no);exact rfl;exact rfl;exact rfl;exact rfl)|((with_reducible apply wl_noU);exact rfl;exact rfl;exact rfl)
    refine wl_nil (qk_thn ?_)
    by_cases h8 : 256 ≤ u
    · refine wc_yes rfl (by simp; omega) ?_
      refine wc_seq (wc_region ?_)
      refine wl_move rfl rfl (wl_shr rfl rfl rfl (shr_nat u 8 32 (by omega)) (wl_assign rfl rfl (wl_nil (qk_thn (wc_region (wl_move rfl rfl (wl_add rfl rfl rfl (r := 8) (by decide) (wl_assign rfl rfl (wl_nil (qk_thn ?_))))))))))
      refine wc_seq (wc_region ?_)
      refine wl_move rfl rfl (wl_move rfl rfl (wl_conv .u8 rfl (by kernel_rfl) (by kernel_rfl) rfl (r := ((u / 2 ^ 8 : Nat) : Int)) (by rw [IntKind.wrap_u8]; omega) ?_))
      refine wl_tab (u / 2 ^ 8) 256 bitsAre rfl rfl (by kernel_rfl) rfl rfl (by omega) (by kernel_rfl) (fun c hc => ?_)
      obtain ⟨b1, b2, b3, b4⟩ := bits_up _ c 8 u hc rfl (by omega)
      refine wl_conv .i64 rfl (by kernel_rfl) (by kernel_rfl) rfl (r := (c : Int)) (by rw [IntKind.wrap_i64]; omega) ?_
      refine wl_add rfl rfl rfl (r := ((c + 8 : Nat) : Int)) (by rw [IntKind.wrap_i64]; omega) (wl_assign rfl rfl (wl_nil (qk_thn ?_)))
      exact wc_ret (qk_ret1 rfl rfl ⟨⟨_, rfl, b1, .inr b2, by omega⟩, rfl⟩)
    · refine wc_no rfl (by simp; omega) (wc_skip (qk_thn ?_))
      refine wc_seq (wc_region ?_)
      refine wl_move rfl rfl (wl_move rfl rfl (wl_conv .u8 rfl (by kernel_rfl) (by kernel_rfl) rfl (r := (u : Int)) (by rw [IntKind.wrap_u8]; omega) ?_))
      refine wl_tab u 256 bitsAre rfl rfl (by kernel_rfl) rfl rfl (by omega) (by kernel_rfl) (fun c hc => ?_)
      simp only [bitsAre, Bool.and_eq_true, decide_eq_true_eq] at hc
      obtain ⟨⟨b1, b2⟩, b3⟩ := hc
      refine wl_conv .i64 rfl (by kernel_rfl) (by kernel_rfl) rfl (r := (c : Int)) (by rw [IntKind.wrap_i64]; omega) ?_
      refine wl_add rfl rfl rfl (r := (c : Int)) (by rw [IntKind.wrap_i64]; omega) (wl_assign rfl rfl (wl_nil (qk_thn ?_)))
      exact wc_ret (qk_ret1 rfl rfl ⟨⟨_, rfl, b1, b2, by omega⟩, rfl⟩)
theorem uvarintLen (u : Nat) (hu : u < 4294967296) (w : World) : Calls Try.prog 124 #[.int .u32 (u : Int)] w fun e w' => (∃ r c : Nat, e = .returned (.int .i64 (c : Int)) ∧ BitsOf u r ∧ groupsAre r c = true) ∧ w' = w := by
  refine enter (vs := [.int .u32 (u : Int)]) Try.func124 rfl Try.ntmps124 rfl ?_
  refine wc_seq (wc_region (wl_assign rfl rfl (wl_nil (qk_thn ?_))))
  refine wc_seq (wc_region ?_)
  refine wl_move rfl rfl (wl_call rfl (by kernel_rfl) rfl ((len32 u hu w).mono ?_))
  rintro e w' ⟨⟨r, rfl, hr⟩, rfl⟩
  have hr32 := hr.2.2
  refine ⟨_, rfl, ?_⟩
  refine wl_conv .u8 rfl (by kernel_rfl) (by kernel_rfl) rfl (r := (r : Int)) (by rw [IntKind.wrap_u8]; omega) ?_
  refine wl_tab r 33 groupsAre rfl rfl (by kernel_rfl) rfl rfl (by omega) (by kernel_rfl) (fun c hc => ?_)
  have hc5 : c ≤ 5 := by unfold groupsAre at hc; split at hc <;> (try split at hc) <;> (try split at hc) <;> (try split at hc) <;> simp at hc <;> omega
  refine wl_conv .i64 rfl (by kernel_rfl) (by kernel_rfl) rfl (r := (c : Int)) (by rw [IntKind.wrap_i64]; omega) ?_
  refine wl_assign rfl rfl (wl_nil (qk_thn ?_))
  exact wc_ret (qk_ret1 rfl rfl ⟨⟨r, c, rfl, hr, hc⟩, rfl⟩)
end
end Go.Proofs.Ytmihblfjhoblmaa

/- The package's functions that append: numbers in groups, texts, octets, counts. -/
namespace Go.Proofs.Ytmihblfjhoblmaa
open Go Go.RowKit

section
set_option maxRecDepth 100000
theorem ends (u r c : Nat) (h : BitsOf u r) (g : groupsAre r c = true) :
    (c = 1 ∧ u < 128) ∨ (c = 2 ∧ 128 ≤ u ∧ u < 16384) ∨ (c = 3 ∧ 16384 ≤ u ∧ u < 2097152) ∨ (c = 4 ∧ 2097152 ≤ u ∧ u < 268435456) ∨ (c = 5 ∧ 268435456 ≤ u ∧ u < 4294967296) := by
  obtain ⟨h1, h2, h3⟩ := h
  have up : ∀ a b : Nat, a ≤ b → 2 ^ a ≤ 2 ^ b := fun a b h => Nat.pow_le_pow_right (by decide) h
  unfold groupsAre at g
  split at g
  · rename_i hr; simp at g; have := up r 7 hr; exact .inl ⟨g, by omega⟩
  · split at g
    · rename_i h0 hr; simp at g; have := up r 14 hr; have := up 7 (r - 1) (by omega); exact .inr (.inl ⟨g, by omega, by omega⟩)
    · split at g
      · rename_i h0 hr; simp at g; have := up r 21 hr; have := up 14 (r - 1) (by omega); exact .inr (.inr (.inl ⟨g, by omega, by omega⟩))
      · split at g
        · rename_i h0 hr; simp at g; have := up r 28 hr; have := up 21 (r - 1) (by omega); exact .inr (.inr (.inr (.inl ⟨g, by omega, by omega⟩)))
        · rename_i h0; simp at g; have := up r 32 h3; have := up 28 (r - 1) (by omega); exact .inr (.inr (.inr (.inr ⟨g, by omega, by omega⟩)))

theorem uvar1_bytes (u : Nat) (h : u < 128) : [Value.int .u8 (IntKind.u8.wrap (u : Int))] = bv (uvar u) := by rw [uvar_lt h, cellByte]; rfl
theorem cons2 {a b : Value} {r s : List Value} (h : a = b) (k : r = s) : a :: r = b :: s := by rw [h, k]
theorem uvar2_bytes (u : Nat) (h1 : 128 ≤ u) (h2 : u < 16384) : [Value.int .u8 (IntKind.u8.wrap (bits .or .u32 (bits .and .u32 (u : Int) 127) 128)), .int .u8 (IntKind.u8.wrap ((u : Int).fdiv (2 ^ (min (7 : Int).toNat IntKind.u32.bits))))] = bv (uvar u) := by
  rw [uvar2 h1 h2]; exact cons2 (grp0 u (by omega)) (cons2 (grpLast u 7 (by omega)) rfl)
theorem uvar3_bytes (u : Nat) (h1 : 16384 ≤ u) (h2 : u < 2097152) : [Value.int .u8 (IntKind.u8.wrap (bits .or .u32 (bits .and .u32 (u : Int) 127) 128)), .int .u8 (IntKind.u8.wrap (bits .or .u32 (bits .and .u32 ((u : Int).fdiv (2 ^ (min (7 : Int).toNat IntKind.u32.bits))) 127) 128)),
    .int .u8 (IntKind.u8.wrap ((u : Int).fdiv (2 ^ (min (14 : Int).toNat IntKind.u32.bits))))] = bv (uvar u) := by
  rw [uvar3 h1 h2]; exact cons2 (grp0 u (by omega)) (cons2 (grp u 7 (by omega) (by omega)) (cons2 (grpLast u 14 (by omega)) rfl))
theorem uvar4_bytes (u : Nat) (h1 : 2097152 ≤ u) (h2 : u < 268435456) : [Value.int .u8 (IntKind.u8.wrap (bits .or .u32 (bits .and .u32 (u : Int) 127) 128)), .int .u8 (IntKind.u8.wrap (bits .or .u32 (bits .and .u32 ((u : Int).fdiv (2 ^ (min (7 : Int).toNat IntKind.u32.bits))) 127) 128)),
    .int .u8 (IntKind.u8.wrap (bits .or .u32 (bits .and .u32 ((u : Int).fdiv (2 ^ (min (14 : Int).toNat IntKind.u32.bits))) 127) 128)), .int .u8 (IntKind.u8.wrap ((u : Int).fdiv (2 ^ (min (21 : Int).toNat IntKind.u32.bits))))] = bv (uvar u) := by
  rw [uvar4 h1 h2]; exact cons2 (grp0 u (by omega)) (cons2 (grp u 7 (by omega) (by omega)) (cons2 (grp u 14 (by omega) (by omega)) (cons2 (grpLast u 21 (by omega)) rfl)))
theorem uvar5_bytes (u : Nat) (h1 : 268435456 ≤ u) (h2 : u < 4294967296) : [Value.int .u8 (IntKind.u8.wrap (bits .or .u32 (bits .and .u32 (u : Int) 127) 128)), .int .u8 (IntKind.u8.wrap (bits .or .u32 (bits .and .u32 ((u : Int).fdiv (2 ^ (min (7 : Int).toNat IntKind.u32.bits))) 127) 128)),
    .int .u8 (IntKind.u8.wrap (bits .or .u32 (bits .and .u32 ((u : Int).fdiv (2 ^ (min (14 : Int).toNat IntKind.u32.bits))) 127) 128)), .int .u8 (IntKind.u8.wrap (bits .or .u32 (bits .and .u32 ((u : Int).fdiv (2 ^ (min (21 : Int).toNat IntKind.u32.bits))) 127) 128)), .int .u8 (IntKind.u8.wrap ((u : Int).fdiv (2 ^ (min (28 : Int).toNat IntKind.u32.bits))))] = bv (uvar u) := by
  rw [uvar5 h1 h2]; exact cons2 (grp0 u (by omega)) (cons2 (grp u 7 (by omega) (by omega)) (cons2 (grp u 14 (by omega) (by omega)) (cons2 (grp u 21 (by omega) (by omega)) (cons2 (grpLast u 28 (by omega)) rfl))))
theorem uvar_len {u c : Nat} (h : (c = 1 ∧ u < 128) ∨ (c = 2 ∧ 128 ≤ u ∧ u < 16384) ∨ (c = 3 ∧ 16384 ≤ u ∧ u < 2097152) ∨ (c = 4 ∧ 2097152 ≤ u ∧ u < 268435456) ∨ (c = 5 ∧ 268435456 ≤ u ∧ u < 4294967296)) : (uvar u).length = c := by
  rcases h with ⟨rfl, h⟩ | ⟨rfl, h, h'⟩ | ⟨rfl, h, h'⟩ | ⟨rfl, h, h'⟩ | ⟨rfl, h, h'⟩
  · rw [uvar_lt h]; rfl
  · rw [uvar2 h h']; rfl
  · rw [uvar3 h h']; rfl
  · rw [uvar4 h h']; rfl
  · rw [uvar5 h h']; rfl

theorem appendUvarint (u : Nat) (hu : u < 4294967296) : App 91 [.int .u32 (u : Int)] (uvar u) := by
  intro d w B xs _ hown hB hlim
  refine enter Try.func91 rfl Try.ntmps91 rfl ?_
  repeat first|(with_reducible first|apply wc_seq|apply wc_region|apply wl_nil|apply qk_thn|apply wc_block|apply wc_skip|apply wc_ret|apply wc_exit|apply qk_thn_ret|apply qk_in_ret|apply qk_in|apply qk_thn_exit|apply qk_in_exit|apply qk_round_ret|apply qk_round_exit)|((with_reducible apply ws);exact rfl;exact rfl)|((with_reducible apply wl_yes);exact rfl;exact rfl;exact rfl)|((with_reducible apply wl_no);exact rfl;exact rfl;exact rfl;exact rfl)|((with_reducible apply wl_noU);exact rfl;exact rfl;exact rfl)
  refine wl_call rfl (by kernel_rfl) rfl ((uvarintLen u hu w).mono ?_)
  rintro e w' ⟨⟨r, c, rfl, hr, hc⟩, rfl⟩
  have hend := ends u r c hr hc
  have hlen := uvar_len hend
  refine ⟨_, rfl, ?_⟩
  rcases hend with ⟨rfl, h⟩ | ⟨rfl, h, h'⟩ | ⟨rfl, h, h'⟩ | ⟨rfl, h, h'⟩ | ⟨rfl, h, h'⟩
  · repeat first|(with_reducible first|apply wc_seq|apply wc_region|apply wl_nil|apply qk_thn|apply wc_block|apply wc_skip|apply wc_ret|apply wc_exit|apply qk_thn_ret|apply qk_in_ret|apply qk_in|apply qk_thn_exit|apply qk_in_exit|apply qk_round_ret|apply qk_round_exit)|((with_reducible apply ws);exact rfl;exact rfl)|((with_reducible apply wl_yes);exact rfl;exact rfl;exact rfl)|((with_reducible apply wl_no);exact rfl;exact rfl;exact rfl;exact rfl)|((with_reducible apply wl_noU);exact rfl;exact rfl;exact rfl)
    refine wc_no rfl (by decide) ?_
    repeat first|(with_reducible first|apply wc_seq|apply wc_region|apply wl_nil|apply qk_thn|apply wc_block|apply wc_skip|apply wc_ret|apply wc_exit|apply qk_thn_ret|apply qk_in_ret|apply qk_in|apply qk_thn_exit|apply qk_in_exit|apply qk_round_ret|apply qk_round_exit)|((with_reducible apply ws);exact rfl;exact rfl)|((with_reducible apply wl_yes);exact rfl;exact rfl;exact rfl)|((with_reducible apply wl_no);exact rfl;exact rfl;exact rfl;exact rfl)|((with_reducible apply wl_noU);exact rfl;exact rfl;exact rfl)
    refine wc_no rfl (by decide) ?_
    repeat first|(with_reducible first|apply wc_seq|apply wc_region|apply wl_nil|apply qk_thn|apply wc_block|apply wc_skip|apply wc_ret|apply wc_exit|apply qk_thn_ret|apply qk_in_ret|apply qk_in|apply qk_thn_exit|apply qk_in_exit|apply qk_round_ret|apply qk_round_exit)|((with_reducible apply ws);exact rfl;exact rfl)|((with_reducible apply wl_yes);exact rfl;exact rfl;exact rfl)|((with_reducible apply wl_no);exact rfl;exact rfl;exact rfl;exact rfl)|((with_reducible apply wl_noU);exact rfl;exact rfl;exact rfl)
    refine wc_no rfl (by decide) ?_
    repeat first|(with_reducible first|apply wc_seq|apply wc_region|apply wl_nil|apply qk_thn|apply wc_block|apply wc_skip|apply wc_ret|apply wc_exit|apply qk_thn_ret|apply qk_in_ret|apply qk_in|apply qk_thn_exit|apply qk_in_exit|apply qk_round_ret|apply qk_round_exit)|((with_reducible apply ws);exact rfl;exact rfl)|((with_reducible apply wl_yes);exact rfl;exact rfl;exact rfl)|((with_reducible apply wl_no);exact rfl;exact rfl;exact rfl;exact rfl)|((with_reducible apply wl_noU);exact rfl;exact rfl;exact rfl)
    refine wc_no rfl (by decide) ?_
    repeat first|(with_reducible first|apply wc_seq|apply wc_region|apply wl_nil|apply qk_thn|apply wc_block|apply wc_skip|apply wc_ret|apply wc_exit|apply qk_thn_ret|apply qk_in_ret|apply qk_in|apply qk_thn_exit|apply qk_in_exit|apply qk_round_ret|apply qk_round_exit)|((with_reducible apply ws);exact rfl;exact rfl)|((with_reducible apply wl_yes);exact rfl;exact rfl;exact rfl)|((with_reducible apply wl_no);exact rfl;exact rfl;exact rfl;exact rfl)|((with_reducible apply wl_noU);exact rfl;exact rfl;exact rfl)
    refine wc_yes rfl (by decide) ?_
    repeat first|(with_reducible first|apply wc_seq|apply wc_region|apply wl_nil|apply qk_thn|apply wc_block|apply wc_skip|apply wc_ret|apply wc_exit|apply qk_thn_ret|apply qk_in_ret|apply qk_in|apply qk_thn_exit|apply qk_in_exit|apply qk_round_ret|apply qk_round_exit)|((with_reducible apply ws);exact rfl;exact rfl)|((with_reducible apply wl_yes);exact rfl;exact rfl;exact rfl)|((with_reducible apply wl_no);exact rfl;exact rfl;exact rfl;exact rfl)|((with_reducible apply wl_noU);exact rfl;exact rfl;exact rfl)|((with_reducible first|apply wl_and|apply wl_or|apply wl_shr);exact rfl;exact rfl;exact rfl;exact rfl)|((with_reducible apply wl_conv .u8);exact rfl;exact ti_u32;exact ti_u8;exact rfl;exact rfl)
    refine wl_appLit (by kernel_rfl) rfl (uvar1_bytes u h) (by rw [hlen]; rfl) rfl rfl rfl rfl hown hB hlim (fun d' w' ho hg => ?_)
    repeat first|(with_reducible first|apply wc_seq|apply wc_region|apply wl_nil|apply qk_thn|apply wc_block|apply wc_skip|apply wc_ret|apply wc_exit|apply qk_thn_ret|apply qk_in_ret|apply qk_in|apply qk_thn_exit|apply qk_in_exit|apply qk_round_ret|apply qk_round_exit)|((with_reducible apply ws);exact rfl;exact rfl)|((with_reducible apply wl_yes);exact rfl;exact rfl;exact rfl)|((with_reducible apply wl_no);exact rfl;exact rfl;exact rfl;exact rfl)|((with_reducible apply wl_noU);exact rfl;exact rfl;exact rfl)
    exact qk_ret1 rfl rfl ⟨d', rfl, ho, hg⟩
  · repeat first|(with_reducible first|apply wc_seq|apply wc_region|apply wl_nil|apply qk_thn|apply wc_block|apply wc_skip|apply wc_ret|apply wc_exit|apply qk_thn_ret|apply qk_in_ret|apply qk_in|apply qk_thn_exit|apply qk_in_exit|apply qk_round_ret|apply qk_round_exit)|((with_reducible apply ws);exact rfl;exact rfl)|((with_reducible apply wl_yes);exact rfl;exact rfl;exact rfl)|((with_reducible apply wl_no);exact rfl;exact rfl;exact rfl;exact rfl)|((with_reducible apply wl_noU);exact rfl;exact rfl;exact rfl)
    refine wc_no rfl (by decide) ?_
    repeat first|(with_reducible first|apply wc_seq|apply wc_region|apply wl_nil|apply qk_thn|apply wc_block|apply wc_skip|apply wc_ret|apply wc_exit|apply qk_thn_ret|apply qk_in_ret|apply qk_in|apply qk_thn_exit|apply qk_in_exit|apply qk_round_ret|apply qk_round_exit)|((with_reducible apply ws);exact rfl;exact rfl)|((with_reducible apply wl_yes);exact rfl;exact rfl;exact rfl)|((with_reducible apply wl_no);exact rfl;exact rfl;exact rfl;exact rfl)|((with_reducible apply wl_noU);exact rfl;exact rfl;exact rfl)
    refine wc_no rfl (by decide) ?_
    repeat first|(with_reducible first|apply wc_seq|apply wc_region|apply wl_nil|apply qk_thn|apply wc_block|apply wc_skip|apply wc_ret|apply wc_exit|apply qk_thn_ret|apply qk_in_ret|apply qk_in|apply qk_thn_exit|apply qk_in_exit|apply qk_round_ret|apply qk_round_exit)|((with_reducible apply ws);exact rfl;exact rfl)|((with_reducible apply wl_yes);exact rfl;exact rfl;exact rfl)|((with_reducible apply wl_no);exact rfl;exact rfl;exact rfl;exact rfl)|((with_reducible apply wl_noU);exact rfl;exact rfl;exact rfl)
    refine wc_no rfl (by decide) ?_
    repeat first|(with_reducible first|apply wc_seq|apply wc_region|apply wl_nil|apply qk_thn|apply wc_block|apply wc_skip|apply wc_ret|apply wc_exit|apply qk_thn_ret|apply qk_in_ret|apply qk_in|apply qk_thn_exit|apply qk_in_exit|apply qk_round_ret|apply qk_round_exit)|((with_reducible apply ws);exact rfl;exact rfl)|((with_reducible apply wl_yes);exact rfl;exact rfl;exact rfl)|((with_reducible apply wl_no);exact rfl;exact rfl;exact rfl;exact rfl)|((with_reducible apply wl_noU);exact rfl;exact rfl;exact rfl)
    refine wc_yes rfl (by decide) ?_
    repeat first|(with_reducible first|apply wc_seq|apply wc_region|apply wl_nil|apply qk_thn|apply wc_block|apply wc_skip|apply wc_ret|apply wc_exit|apply qk_thn_ret|apply qk_in_ret|apply qk_in|apply qk_thn_exit|apply qk_in_exit|apply qk_round_ret|apply qk_round_exit)|((with_reducible apply ws);exact rfl;exact rfl)|((with_reducible apply wl_yes);exact rfl;exact rfl;exact rfl)|((with_reducible apply wl_no);exact rfl;exact rfl;exact rfl;exact rfl)|((with_reducible apply wl_noU);exact rfl;exact rfl;exact rfl)|((with_reducible first|apply wl_and|apply wl_or|apply wl_shr);exact rfl;exact rfl;exact rfl;exact rfl)|((with_reducible apply wl_conv .u8);exact rfl;exact ti_u32;exact ti_u8;exact rfl;exact rfl)
    refine wl_appLit (by kernel_rfl) rfl (uvar2_bytes u h h') (by rw [hlen]; rfl) rfl rfl rfl rfl hown hB hlim (fun d' w' ho hg => ?_)
    repeat first|(with_reducible first|apply wc_seq|apply wc_region|apply wl_nil|apply qk_thn|apply wc_block|apply wc_skip|apply wc_ret|apply wc_exit|apply qk_thn_ret|apply qk_in_ret|apply qk_in|apply qk_thn_exit|apply qk_in_exit|apply qk_round_ret|apply qk_round_exit)|((with_reducible apply ws);exact rfl;exact rfl)|((with_reducible apply wl_yes);exact rfl;exact rfl;exact rfl)|((with_reducible apply wl_no);exact rfl;exact rfl;exact rfl;exact rfl)|((with_reducible apply wl_noU);exact rfl;exact rfl;exact rfl)
    exact qk_ret1 rfl rfl ⟨d', rfl, ho, hg⟩
  · repeat first|(with_reducible first|apply wc_seq|apply wc_region|apply wl_nil|apply qk_thn|apply wc_block|apply wc_skip|apply wc_ret|apply wc_exit|apply qk_thn_ret|apply qk_in_ret|apply qk_in|apply qk_thn_exit|apply qk_in_exit|apply qk_round_ret|apply qk_round_exit)|((with_reducible apply ws);exact rfl;exact rfl)|((with_reducible apply wl_yes);exact rfl;exact rfl;exact rfl)|((with_reducible apply wl_no);exact rfl;exact rfl;exact rfl;exact rfl)|((with_reducible apply wl_noU);exact rfl;exact rfl;exact rfl)
    refine wc_no rfl (by decide) ?_
    repeat first|(with_reducible first|apply wc_seq|apply wc_region|apply wl_nil|apply qk_thn|apply wc_block|apply wc_skip|apply wc_ret|apply wc_exit|apply qk_thn_ret|apply qk_in_ret|apply qk_in|apply qk_thn_exit|apply qk_in_exit|apply qk_round_ret|apply qk_round_exit)|((with_reducible apply ws);exact rfl;exact rfl)|((with_reducible apply wl_yes);exact rfl;exact rfl;exact rfl)|((with_reducible apply wl_no);exact rfl;exact rfl;exact rfl;exact rfl)|((with_reducible apply wl_noU);exact rfl;exact rfl;exact rfl)
    refine wc_no rfl (by decide) ?_
    repeat first|(with_reducible first|apply wc_seq|apply wc_region|apply wl_nil|apply qk_thn|apply wc_block|apply wc_skip|apply wc_ret|apply wc_exit|apply qk_thn_ret|apply qk_in_ret|apply qk_in|apply qk_thn_exit|apply qk_in_exit|apply qk_round_ret|apply qk_round_exit)|((with_reducible apply ws);exact rfl;exact rfl)|((with_reducible apply wl_yes);exact rfl;exact rfl;exact rfl)|((with_reducible apply wl_no);exact rfl;exact rfl;exact rfl;exact rfl)|((with_reducible apply wl_noU);exact rfl;exact rfl;exact rfl)
    refine wc_yes rfl (by decide) ?_
    repeat first|(with_reducible first|apply wc_seq|apply wc_region|apply wl_nil|apply qk_thn|apply wc_block|apply wc_skip|apply wc_ret|apply wc_exit|apply qk_thn_ret|apply qk_in_ret|apply qk_in|apply qk_thn_exit|apply qk_in_exit|apply qk_round_ret|apply qk_round_exit)|((with_reducible apply ws);exact rfl;exact rfl)|((with_reducible apply wl_yes);exact rfl;exact rfl;exact rfl)|((with_reducible apply wl_no);exact rfl;exact rfl;exact rfl;exact rfl)|((with_reducible apply wl_noU);exact rfl;exact rfl;exact rfl)|((with_reducible first|apply wl_and|apply wl_or|apply wl_shr);exact rfl;exact rfl;exact rfl;exact rfl)|((with_reducible apply wl_conv .u8);exact rfl;exact ti_u32;exact ti_u8;exact rfl;exact rfl)
    refine wl_appLit (by kernel_rfl) rfl (uvar3_bytes u h h') (by rw [hlen]; rfl) rfl rfl rfl rfl hown hB hlim (fun d' w' ho hg => ?_)
    repeat first|(with_reducible first|apply wc_seq|apply wc_region|apply wl_nil|apply qk_thn|apply wc_block|apply wc_skip|apply wc_ret|apply wc_exit|apply qk_thn_ret|apply qk_in_ret|apply qk_in|apply qk_thn_exit|apply qk_in_exit|apply qk_round_ret|apply qk_round_exit)|((with_reducible apply ws);exact rfl;exact rfl)|((with_reducible apply wl_yes);exact rfl;exact rfl;exact rfl)|((with_reducible apply wl_no);exact rfl;exact rfl;exact rfl;exact rfl)|((with_reducible apply wl_noU);exact rfl;exact rfl;exact rfl)
    exact qk_ret1 rfl rfl ⟨d', rfl, ho, hg⟩
  · repeat first|(with_reducible first|apply wc_seq|apply wc_region|apply wl_nil|apply qk_thn|apply wc_block|apply wc_skip|apply wc_ret|apply wc_exit|apply qk_thn_ret|apply qk_in_ret|apply qk_in|apply qk_thn_exit|apply qk_in_exit|apply qk_round_ret|apply qk_round_exit)|((with_reducible apply ws);exact rfl;exact rfl)|((with_reducible apply wl_yes);exact rfl;exact rfl;exact rfl)|((with_reducible apply wl_no);exact rfl;exact rfl;exact rfl;exact rfl)|((with_reducible apply wl_noU);exact rfl;exact rfl;exact rfl)
    refine wc_no rfl (by decide) ?_
    repeat first|(with_reducible first|apply wc_seq|apply wc_region|apply wl_nil|apply qk_thn|apply wc_block|apply wc_skip|apply wc_ret|apply wc_exit|apply qk_thn_ret|apply qk_in_ret|apply qk_in|apply qk_thn_exit|apply qk_in_exit|apply qk_round_ret|apply qk_round_exit)|((with_reducible apply ws);exact rfl;exact rfl)|((with_reducible apply wl_yes);exact rfl;exact rfl;exact rfl)|((with_reducible apply wl_no);exact rfl;exact rfl;exact rfl;exact rfl)|((with_reducible apply wl_noU);exact rfl;exact rfl;exact rfl)
    refine wc_yes rfl (by decide) ?_
    repeat first|(with_reducible first|apply wc_seq|apply wc_region|apply wl_nil|apply qk_thn|apply wc_block|apply wc_skip|apply wc_ret|apply wc_exit|apply qk_thn_ret|apply qk_in_ret|apply qk_in|apply qk_thn_exit|apply qk_in_exit|apply qk_round_ret|apply qk_round_exit)|((with_reducible apply ws);exact rfl;exact rfl)|((with_reducible apply wl_yes);exact rfl;exact rfl;exact rfl)|((with_reducible apply wl_no);exact rfl;exact rfl;exact rfl;exact rfl)|((with_reducible apply wl_noU);exact rfl;exact rfl;exact rfl)|((with_reducible first|apply wl_and|apply wl_or|apply wl_shr);exact rfl;exact rfl;exact rfl;exact rfl)|((with_reducible apply wl_conv .u8);exact rfl;exact ti_u32;exact ti_u8;exact rfl;exact rfl)
    refine wl_appLit (by kernel_rfl) rfl (uvar4_bytes u h h') (by rw [hlen]; rfl) rfl rfl rfl rfl hown hB hlim (fun d' w' ho hg => ?_)
    repeat first|(with_reducible first|apply wc_seq|apply wc_region|apply wl_nil|apply qk_thn|apply wc_block|apply wc_skip|apply wc_ret|apply wc_exit|apply qk_thn_ret|apply qk_in_ret|apply qk_in|apply qk_thn_exit|apply qk_in_exit|apply qk_round_ret|apply qk_round_exit)|((with_reducible apply ws);exact rfl;exact rfl)|((with_reducible apply wl_yes);exact rfl;exact rfl;exact rfl)|((with_reducible apply wl_no);exact rfl;exact rfl;exact rfl;exact rfl)|((with_reducible apply wl_noU);exact rfl;exact rfl;exact rfl)
    exact qk_ret1 rfl rfl ⟨d', rfl, ho, hg⟩
  · repeat first|(with_reducible first|apply wc_seq|apply wc_region|apply wl_nil|apply qk_thn|apply wc_block|apply wc_skip|apply wc_ret|apply wc_exit|apply qk_thn_ret|apply qk_in_ret|apply qk_in|apply qk_thn_exit|apply qk_in_exit|apply qk_round_ret|apply qk_round_exit)|((with_reducible apply ws);exact rfl;exact rfl)|((with_reducible apply wl_yes);exact rfl;exact rfl;exact rfl)|((with_reducible apply wl_no);exact rfl;exact rfl;exact rfl;exact rfl)|((with_reducible apply wl_noU);exact rfl;exact rfl;exact rfl)
    refine wc_yes rfl (by decide) ?_
    repeat first|(with_reducible first|apply wc_seq|apply wc_region|apply wl_nil|apply qk_thn|apply wc_block|apply wc_skip|apply wc_ret|apply wc_exit|apply qk_thn_ret|apply qk_in_ret|apply qk_in|apply qk_thn_exit|apply qk_in_exit|apply qk_round_ret|apply qk_round_exit)|((with_reducible apply ws);exact rfl;exact rfl)|((with_reducible apply wl_yes);exact rfl;exact rfl;exact rfl)|((with_reducible apply wl_no);exact rfl;exact rfl;exact rfl;exact rfl)|((with_reducible apply wl_noU);exact rfl;exact rfl;exact rfl)|((with_reducible first|apply wl_and|apply wl_or|apply wl_shr);exact rfl;exact rfl;exact rfl;exact rfl)|((with_reducible apply wl_conv .u8);exact rfl;exact ti_u32;exact ti_u8;exact rfl;exact rfl)
    refine wl_appLit (by kernel_rfl) rfl (uvar5_bytes u h h') (by rw [hlen]; rfl) rfl rfl rfl rfl hown hB hlim (fun d' w' ho hg => ?_)
    repeat first|(with_reducible first|apply wc_seq|apply wc_region|apply wl_nil|apply qk_thn|apply wc_block|apply wc_skip|apply wc_ret|apply wc_exit|apply qk_thn_ret|apply qk_in_ret|apply qk_in|apply qk_thn_exit|apply qk_in_exit|apply qk_round_ret|apply qk_round_exit)|((with_reducible apply ws);exact rfl;exact rfl)|((with_reducible apply wl_yes);exact rfl;exact rfl;exact rfl)|((with_reducible apply wl_no);exact rfl;exact rfl;exact rfl;exact rfl)|((with_reducible apply wl_noU);exact rfl;exact rfl;exact rfl)
    exact qk_ret1 rfl rfl ⟨d', rfl, ho, hg⟩
end
end Go.Proofs.Ytmihblfjhoblmaa

/- The package's functions that append, more: small numbers, truth values, counts, texts, octets, null. -/
namespace Go.Proofs.Ytmihblfjhoblmaa
open Go Go.RowKit

theorem be_length : ∀ (k : Nat) (n : Int), (be k n).length = k
  | 0, _ => rfl
  | k + 1, n => by simp [be, be_length k n]
/-- Octets that lie in blocks below B. -/
def Src (w : World) (B : Nat) (v : Value) (ys : List UInt8) : Prop := BytesAt w v ys ∧ (ys = [] ∨ ∀ g, v.ownBlock = some g → g < B)
theorem Src.grew {w w' : World} {B u8 : Nat} {v d d' : Value} {xs ys : List UInt8} (h : Src w B v ys) (hg : Grew w w' d d') (ho : Own w B u8 d xs) (hB : B ≤ w.heap.size) : Src w' B v ys := by
  refine ⟨?_, h.2⟩
  rcases h.1 with ⟨a, c, rfl, rfl⟩ | ⟨b, off, c, rfl, hc⟩
  · exact .inl ⟨a, c, rfl, rfl⟩
  · rcases h.2 with rfl | h2
    · exact .inl ⟨_, _, rfl, rfl⟩
    have hb : b < B := h2 b rfl
    exact .inr ⟨b, off, c, rfl, hc.of_block (hg.grown.block b (by omega) (fun e => by have := ho.ge b e.symm; omega))⟩

section
set_option maxRecDepth 100000
theorem appendInt16 (i : Int) : App 108 [.int .i16 i] (be 2 i) := by
  intro d w B xs hpre hown hB hlim
  refine enter Try.func108 rfl Try.ntmps108 rfl ?_
  have hb : be 2 (IntKind.u16.wrap i) = be 2 i := by rw [IntKind.wrap_u16]; exact be_mod 2 16 i (by omega)
  repeat first|(with_reducible first|apply wc_seq|apply wc_region|apply wl_nil|apply qk_thn|apply wc_block|apply wc_skip|apply wc_ret|apply wc_exit|apply qk_thn_ret|apply qk_in_ret|apply qk_in|apply qk_thn_exit|apply qk_in_exit|apply qk_round_ret|apply qk_round_exit)|((with_reducible apply ws);exact rfl;exact rfl)|((with_reducible apply wl_yes);exact rfl;exact rfl;exact rfl)|((with_reducible apply wl_no);exact rfl;exact rfl;exact rfl;exact rfl)|((with_reducible apply wl_noU);exact rfl;exact rfl;exact rfl)|((with_reducible apply wl_conv .u16);exact rfl;exact ti_i16;exact ti_u16;exact rfl;exact rfl)|((with_reducible apply wl_conv .u32);exact rfl;exact ti_i32;exact ti_u32;exact rfl;exact rfl)|((with_reducible apply wl_conv .u32);exact rfl;exact ti_i64;exact ti_u32;exact rfl;exact rfl)|((with_reducible apply wl_conv .i32);exact rfl;exact ti_i64;exact ti_i32;exact rfl;exact rfl)|((with_reducible apply wl_conv .i16);exact rfl;exact ti_i64;exact ti_i16;exact rfl;exact rfl)|((with_reducible apply wl_conv .u64);exact rfl;exact ti_i64;exact ti_u64;exact rfl;exact rfl)|((with_reducible apply wl_conv .u8);exact rfl;exact ti_i8;exact ti_u8;exact rfl;exact rfl)|((with_reducible apply wl_conv .i64);exact rfl;exact ti_u32;exact ti_i64;exact rfl;exact rfl)|((with_reducible apply wl_conv .i64);exact rfl;exact ti_u8;exact ti_i64;exact rfl;exact rfl)
  refine wl_call rfl (by kernel_rfl) rfl ((appendUint16 (IntKind.u16.wrap i) d w B xs trivial hown hB (by rw [hb]; exact hlim)).mono ?_)
  rintro e w' ⟨d', rfl, ho, hg⟩
  rw [hb] at ho
  refine ⟨d', rfl, ?_⟩
  repeat first|(with_reducible first|apply wc_seq|apply wc_region|apply wl_nil|apply qk_thn|apply wc_block|apply wc_skip|apply wc_ret|apply wc_exit|apply qk_thn_ret|apply qk_in_ret|apply qk_in|apply qk_thn_exit|apply qk_in_exit|apply qk_round_ret|apply qk_round_exit)|((with_reducible apply ws);exact rfl;exact rfl)|((with_reducible apply wl_yes);exact rfl;exact rfl;exact rfl)|((with_reducible apply wl_no);exact rfl;exact rfl;exact rfl;exact rfl)|((with_reducible apply wl_noU);exact rfl;exact rfl;exact rfl)
  exact qk_ret1 rfl rfl ⟨_, rfl, ho, hg⟩
theorem appendArrayLen (n : Nat) (hn : n < 2147483648) : App 89 [.int .i64 (n : Int)] (be 4 n) := by
  intro d w B xs hpre hown hB hlim
  refine enter Try.func89 rfl Try.ntmps89 rfl ?_
  have hw : IntKind.i32.wrap (n : Int) = n := by rw [IntKind.wrap_i32]; omega
  repeat first|(with_reducible first|apply wc_seq|apply wc_region|apply wl_nil|apply qk_thn|apply wc_block|apply wc_skip|apply wc_ret|apply wc_exit|apply qk_thn_ret|apply qk_in_ret|apply qk_in|apply qk_thn_exit|apply qk_in_exit|apply qk_round_ret|apply qk_round_exit)|((with_reducible apply ws);exact rfl;exact rfl)|((with_reducible apply wl_yes);exact rfl;exact rfl;exact rfl)|((with_reducible apply wl_no);exact rfl;exact rfl;exact rfl;exact rfl)|((with_reducible apply wl_noU);exact rfl;exact rfl;exact rfl)
  refine wl_conv .i32 rfl ti_i64 ti_i32 rfl hw ?_
  refine wl_call rfl (by kernel_rfl) rfl ((appendInt32 (n : Int) d w B xs trivial hown hB hlim).mono ?_)
  rintro e w' ⟨d', rfl, ho, hg⟩
  refine ⟨d', rfl, ?_⟩
  repeat first|(with_reducible first|apply wc_seq|apply wc_region|apply wl_nil|apply qk_thn|apply wc_block|apply wc_skip|apply wc_ret|apply wc_exit|apply qk_thn_ret|apply qk_in_ret|apply qk_in|apply qk_thn_exit|apply qk_in_exit|apply qk_round_ret|apply qk_round_exit)|((with_reducible apply ws);exact rfl;exact rfl)|((with_reducible apply wl_yes);exact rfl;exact rfl;exact rfl)|((with_reducible apply wl_no);exact rfl;exact rfl;exact rfl;exact rfl)|((with_reducible apply wl_noU);exact rfl;exact rfl;exact rfl)
  exact qk_ret1 rfl rfl ⟨_, rfl, ho, hg⟩
theorem appendCompactArrayLen (n : Nat) (hn : n < 2147483648) : App 88 [.int .i64 (n : Int)] (uvar (n + 1)) := by
  intro d w B xs hpre hown hB hlim
  refine enter Try.func88 rfl Try.ntmps88 rfl ?_
  have hw : IntKind.u32.wrap (n : Int) = n := by rw [IntKind.wrap_u32]; omega
  have hw1 : IntKind.u32.wrap (1 + (n : Int)) = ((n + 1 : Nat) : Int) := by rw [IntKind.wrap_u32]; omega
  repeat first|(with_reducible first|apply wc_seq|apply wc_region|apply wl_nil|apply qk_thn|apply wc_block|apply wc_skip|apply wc_ret|apply wc_exit|apply qk_thn_ret|apply qk_in_ret|apply qk_in|apply qk_thn_exit|apply qk_in_exit|apply qk_round_ret|apply qk_round_exit)|((with_reducible apply ws);exact rfl;exact rfl)|((with_reducible apply wl_yes);exact rfl;exact rfl;exact rfl)|((with_reducible apply wl_no);exact rfl;exact rfl;exact rfl;exact rfl)|((with_reducible apply wl_noU);exact rfl;exact rfl;exact rfl)
  refine wl_conv .u32 rfl ti_i64 ti_u32 rfl hw (wl_add rfl rfl rfl hw1 ?_)
  refine wl_call rfl (by kernel_rfl) rfl ((appendUvarint (n + 1) (by omega) d w B xs trivial hown hB hlim).mono ?_)
  rintro e w' ⟨d', rfl, ho, hg⟩
  refine ⟨d', rfl, ?_⟩
  repeat first|(with_reducible first|apply wc_seq|apply wc_region|apply wl_nil|apply qk_thn|apply wc_block|apply wc_skip|apply wc_ret|apply wc_exit|apply qk_thn_ret|apply qk_in_ret|apply qk_in|apply qk_thn_exit|apply qk_in_exit|apply qk_round_ret|apply qk_round_exit)|((with_reducible apply ws);exact rfl;exact rfl)|((with_reducible apply wl_yes);exact rfl;exact rfl;exact rfl)|((with_reducible apply wl_no);exact rfl;exact rfl;exact rfl;exact rfl)|((with_reducible apply wl_noU);exact rfl;exact rfl;exact rfl)
  exact qk_ret1 rfl rfl ⟨_, rfl, ho, hg⟩
theorem appendString (s : ByteArray) (hs : s.size ≤ 32767) : App 87 [.string s] (be 2 s.size ++ strB s) := by
  intro d w B xs hpre hown hB hlim
  refine enter Try.func87 rfl Try.ntmps87 rfl ?_
  simp only [List.length_append] at hlim
  simp only [be_length] at hlim
  have hsl := strB_len s
  have hb : be 2 (IntKind.i16.wrap (s.size : Int)) = be 2 s.size := by rw [show IntKind.i16.wrap (s.size : Int) = s.size from by simp [IntKind.wrap, IntKind.bits, IntKind.signed]; split <;> omega]
  repeat first|(with_reducible first|apply wc_seq|apply wc_region|apply wl_nil|apply qk_thn|apply wc_block|apply wc_skip|apply wc_ret|apply wc_exit|apply qk_thn_ret|apply qk_in_ret|apply qk_in|apply qk_thn_exit|apply qk_in_exit|apply qk_round_ret|apply qk_round_exit)|((with_reducible apply ws);exact rfl;exact rfl)|((with_reducible apply wl_yes);exact rfl;exact rfl;exact rfl)|((with_reducible apply wl_no);exact rfl;exact rfl;exact rfl;exact rfl)|((with_reducible apply wl_noU);exact rfl;exact rfl;exact rfl)
  refine wl_lenStr rfl ts_str rfl ?_
  refine wl_conv .i16 rfl ti_i64 ti_i16 rfl (r := IntKind.i16.wrap (s.size : Int)) rfl ?_
  refine wl_call rfl (by kernel_rfl) rfl ((appendInt16 (IntKind.i16.wrap (s.size : Int)) d w B xs trivial hown hB (by simp only [be_length]; omega)).mono ?_)
  rintro e w1 ⟨d1, rfl, ho1, hg1⟩
  rw [hb] at ho1
  refine ⟨d1, rfl, ?_⟩
  repeat first|(with_reducible first|apply wc_seq|apply wc_region|apply wl_nil|apply qk_thn|apply wc_block|apply wc_skip|apply wc_ret|apply wc_exit|apply qk_thn_ret|apply qk_in_ret|apply qk_in|apply qk_thn_exit|apply qk_in_exit|apply qk_round_ret|apply qk_round_exit)|((with_reducible apply ws);exact rfl;exact rfl)|((with_reducible apply wl_yes);exact rfl;exact rfl;exact rfl)|((with_reducible apply wl_no);exact rfl;exact rfl;exact rfl;exact rfl)|((with_reducible apply wl_noU);exact rfl;exact rfl;exact rfl)
  refine wl_appStr tb_bytes ts_str rfl rfl rfl ho1 (Nat.le_trans hB hg1.grown.size) (by simp only [List.length_append, be_length]; omega) (fun d' w' ho hg => ?_)
  rw [List.append_assoc] at ho
  repeat first|(with_reducible first|apply wc_seq|apply wc_region|apply wl_nil|apply qk_thn|apply wc_block|apply wc_skip|apply wc_ret|apply wc_exit|apply qk_thn_ret|apply qk_in_ret|apply qk_in|apply qk_thn_exit|apply qk_in_exit|apply qk_round_ret|apply qk_round_exit)|((with_reducible apply ws);exact rfl;exact rfl)|((with_reducible apply wl_yes);exact rfl;exact rfl;exact rfl)|((with_reducible apply wl_no);exact rfl;exact rfl;exact rfl;exact rfl)|((with_reducible apply wl_noU);exact rfl;exact rfl;exact rfl)
  exact qk_ret1 rfl rfl ⟨_, rfl, ho, hg1.trans hg⟩
theorem appendCompactString (s : ByteArray) (hs : s.size < 2147483648) : App 86 [.string s] (uvar (s.size + 1) ++ strB s) := by
  intro d w B xs hpre hown hB hlim
  refine enter Try.func86 rfl Try.ntmps86 rfl ?_
  simp only [List.length_append] at hlim
  have hsl := strB_len s
  repeat first|(with_reducible first|apply wc_seq|apply wc_region|apply wl_nil|apply qk_thn|apply wc_block|apply wc_skip|apply wc_ret|apply wc_exit|apply qk_thn_ret|apply qk_in_ret|apply qk_in|apply qk_thn_exit|apply qk_in_exit|apply qk_round_ret|apply qk_round_exit)|((with_reducible apply ws);exact rfl;exact rfl)|((with_reducible apply wl_yes);exact rfl;exact rfl;exact rfl)|((with_reducible apply wl_no);exact rfl;exact rfl;exact rfl;exact rfl)|((with_reducible apply wl_noU);exact rfl;exact rfl;exact rfl)
  refine wl_lenStr rfl ts_str rfl ?_
  refine wl_conv .u32 rfl ti_i64 ti_u32 rfl (r := (s.size : Int)) (by rw [IntKind.wrap_u32]; omega) (wl_add rfl rfl rfl (r := ((s.size + 1 : Nat) : Int)) (by rw [IntKind.wrap_u32]; omega) ?_)
  refine wl_call rfl (by kernel_rfl) rfl ((appendUvarint (s.size + 1) (by omega) d w B xs trivial hown hB (by omega)).mono ?_)
  rintro e w1 ⟨d1, rfl, ho1, hg1⟩
  refine ⟨d1, rfl, ?_⟩
  repeat first|(with_reducible first|apply wc_seq|apply wc_region|apply wl_nil|apply qk_thn|apply wc_block|apply wc_skip|apply wc_ret|apply wc_exit|apply qk_thn_ret|apply qk_in_ret|apply qk_in|apply qk_thn_exit|apply qk_in_exit|apply qk_round_ret|apply qk_round_exit)|((with_reducible apply ws);exact rfl;exact rfl)|((with_reducible apply wl_yes);exact rfl;exact rfl;exact rfl)|((with_reducible apply wl_no);exact rfl;exact rfl;exact rfl;exact rfl)|((with_reducible apply wl_noU);exact rfl;exact rfl;exact rfl)
  refine wl_appStr tb_bytes ts_str rfl rfl rfl ho1 (Nat.le_trans hB hg1.grown.size) (by simp only [List.length_append]; omega) (fun d' w' ho hg => ?_)
  rw [List.append_assoc] at ho
  repeat first|(with_reducible first|apply wc_seq|apply wc_region|apply wl_nil|apply qk_thn|apply wc_block|apply wc_skip|apply wc_ret|apply wc_exit|apply qk_thn_ret|apply qk_in_ret|apply qk_in|apply qk_thn_exit|apply qk_in_exit|apply qk_round_ret|apply qk_round_exit)|((with_reducible apply ws);exact rfl;exact rfl)|((with_reducible apply wl_yes);exact rfl;exact rfl;exact rfl)|((with_reducible apply wl_no);exact rfl;exact rfl;exact rfl;exact rfl)|((with_reducible apply wl_noU);exact rfl;exact rfl;exact rfl)
  exact qk_ret1 rfl rfl ⟨_, rfl, ho, hg1.trans hg⟩
end
end Go.Proofs.Ytmihblfjhoblmaa
