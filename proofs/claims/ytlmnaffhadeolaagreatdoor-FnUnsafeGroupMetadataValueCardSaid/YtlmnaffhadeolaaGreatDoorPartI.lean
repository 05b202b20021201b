/- FnUnsafeGroupMetadataValue: the row, and its card, its one listed variable tied to the program's text (the tie is given). Conditions: those of the row, no others. -/
import Derived.Test.YtlmnaffhadeolaaGreatDoorPartH
import Derived.Test.YtlmnaffhadeolaaGreatDoorPartA
import Derived.ProofKit
import Derived.OpenShut
import Derived.Test.YtlmnaffhadeolaaGreatDoorPartE
import Derived.Test.YtlmnaffhadeolaaGreatDoorPartF
import Derived.Test.YtlmnaffhadeolaaGreatDoorRows
import Derived.Test.YtlmnaffhadeolaaGreatDoorCards
import Derived.Test.YtlmnaffhadeolaaGreatDoorTie
import Derived.ChangeSame
import Derived.ChangeVars
import Derived.JoinedOf
import Derived.RowKit
import Derived.RowKitTokens
import Derived.LaidLaws
import Derived.LaidHandle
import Derived.Stop.Joined
import Derived.SevenTiedAt
set_option linter.all false
namespace Go.Proofs.YtlmnaffhadeolaaGreatDoor
open Go Go.RowKit
section
variable {P : Program} {K : Kr} {g : Nat} {ev : Value} {w : World}
theorem headU (hT : KrTy P K) {f : Nat} {fn : Func} {c : Code} {q : Hd} (hfn : P.funcs[f]? = some fn) (hbody : fn.body = some c) (hq : headF K fn.ntmps c = some q) (hn3 : 3 ≤ fn.ntmps) {l : List (Nat × Value)} {cs cs1 : List Value} (hl : defF P q.f = some l) (hset : setAll l cs = some cs1) {ub : Bool} {b sb : Nat} {e : TypeId} {v : Value} {s : List UInt8} (hb : Box w b cs e) (hv : SrcAt w sb v s) (hsb : sb < w.heap.size) (hne : b ≠ sb)
  (hg : w.cell? ⟨g, 0, none⟩ = some ev) (hgb : g ≠ b) (hgl : g < w.heap.size) {R : Ending → World → Prop}
  (k : ∀ (a : Act) (w3 : World) (rb lo : Nat), w.heap.size ≤ rb → rb < lo → Chg (fun j => j = b ∨ j = rb) w w3 → RAt fn.ntmps g rb sb ev 0 [] [] (startSU q cs1 ub) [(b, 0)] [] [0] ⟨b, lo, [], [], cs1, e, litsD cs1⟩ (some s) (some s) (some s) a w3 → q.rest.wp P (bodyPost P fn R) a w3) :
  Calls P f #[.pointer (some ⟨b, 0, none⟩), v, .bool ub] w R := by
 obtain ⟨i1, i2, i3, ats, t1, t2, t3, t4, t5, t6, t7, p1, p2, p3, p4, p5, p6, p7, f1, f2, f3, f4, f5, f6, f7, rfl, hlt, hdis⟩ := headF_out hq
 simp only [List.mem_cons, List.not_mem_nil, or_false, forall_eq_or_imp, forall_eq] at hlt
 obtain ⟨b1, b2, b3, b4, b5, b6⟩ := hlt
 have hd := distinct_out hdis
 simp only [List.pairwise_cons, List.mem_cons, List.not_mem_nil, or_false, forall_eq_or_imp, forall_eq] at hd
 obtain ⟨⟨_, _, d03, d04, d05, d06, d07, d08⟩, ⟨_, d13, d14, d15, d16, d17, d18⟩, ⟨d23, d24, d25, d26, d27, d28⟩, ⟨d34, d35, d36, d37, d38⟩, ⟨d45, d46, d47, d48⟩, ⟨d56, d57, d58⟩, ⟨d67, d68⟩, d78, _⟩ := hd
 refine calls_of_wp hfn hbody ?_
 refine start_act (N := fn.ntmps) (v0 := .pointer (some ⟨b, 0, none⟩)) (v1 := v) (v2 := .bool ub) ?_ ?_
 ·refine ⟨by simp; omega, rfl, ?_, ?_, ?_⟩ <;>
  ·simp only [gt, Array.getD_eq_getD_getElem?]
   rw [Array.getElem?_append_left (by simp)]; rfl
 intro a0 z
 obtain ⟨z0, z1, z2, z3, z4⟩ := z
 have le_of : ∀ {t : Nat}, Nat.blt t fn.ntmps = true → t < fn.ntmps := fun h => Nat.le_of_ble_eq_true h
 refine wp_seq (wp_region_lit (st_assign ?_))
 show wpList P _ _ [] (a0.put (some q.rs) .nilIface) w
 obtain ⟨a1, ha1⟩ : ∃ a1 : Act, a1 = a0.put (some q.rs) .nilIface := ⟨_, rfl⟩
 rw [← ha1]
 have z' : a1.tmps.size = fn.ntmps ∧ a1.defers = [] ∧ gt a1 0 = .pointer (some ⟨b, 0, none⟩) ∧ gt a1 1 = v ∧ gt a1 2 = .bool ub ∧ gt a1 q.rs = .nilIface := by
  subst ha1
  exact ⟨by rw [put_size]; exact z0, by rw [put_defers]; exact z1, by rw [gt_put_ne _ _ _ _ d03]; exact z2, by rw [gt_put_ne _ _ _ _ d13]; exact z3, by rw [gt_put_ne _ _ _ _ d23]; exact z4, gt_put_same _ _ _ (by rw [z0]; exact le_of b1)⟩
 clear ha1 z0 z1 z2 z3 z4
 obtain ⟨z0, z1, z2, z3, z4, z5⟩ := z'
 refine wp_seq (wp_region_lit (st_move ?_))
 rw [eval_tmp, z2]
 obtain ⟨a2, ha2⟩ : ∃ a2 : Act, a2 = a1.put (some q.x) (.pointer (some ⟨b, 0, none⟩)) := ⟨_, rfl⟩
 rw [← ha2]
 have z' : a2.tmps.size = fn.ntmps ∧ a2.defers = [] ∧ gt a2 0 = .pointer (some ⟨b, 0, none⟩) ∧ gt a2 1 = v ∧ gt a2 2 = .bool ub ∧ gt a2 q.rs = .nilIface ∧ gt a2 q.x = .pointer (some ⟨b, 0, none⟩) := by
  subst ha2
  exact ⟨by rw [put_size]; exact z0, by rw [put_defers]; exact z1, by rw [gt_put_ne _ _ _ _ d04]; exact z2, by rw [gt_put_ne _ _ _ _ d14]; exact z3, by rw [gt_put_ne _ _ _ _ d24]; exact z4, by rw [gt_put_ne _ _ _ _ d34]; exact z5, gt_put_same _ _ _ (by rw [z0]; exact le_of b2)⟩
 clear ha2 z0 z1 z2 z3 z4 z5
 obtain ⟨z0, z1, z2, z3, z4, z5, z6⟩ := z'
 have hdef := defF_ok (w := w) hl (b := b) (pre := []) (cs := cs) (post := []) (e := e) (by simpa using hb) hset
 refine st_call hdef.1 ?_
 have ea : (#[.tmp q.x] : Array Operand).map a2.eval = #[.pointer (some ⟨b, 0, none⟩)] := by simp only [List.map_toArray, List.map_cons, List.map_nil, eval_tmp, z6]
 rw [ea]
 refine hdef.2.mono (fun en w1 he => ?_)
 obtain ⟨rfl, hb1, hc1⟩ := he
 refine ⟨_, rfl, ?_⟩
 show Code.wp P _ _ _ _
 obtain ⟨a3, ha3⟩ : ∃ a3 : Act, a3 = a2.put (some q.y) (.tuple #[]) := ⟨_, rfl⟩
 rw [← ha3]
 have z' : a3.tmps.size = fn.ntmps ∧ a3.defers = [] ∧ gt a3 0 = .pointer (some ⟨b, 0, none⟩) ∧ gt a3 1 = v ∧ gt a3 2 = .bool ub ∧ gt a3 q.rs = .nilIface := by
  subst ha3
  exact ⟨by rw [put_size]; exact z0, by rw [put_defers]; exact z1, by rw [gt_put_ne _ _ _ _ d05]; exact z2, by rw [gt_put_ne _ _ _ _ d15]; exact z3, by rw [gt_put_ne _ _ _ _ d25]; exact z4, by rw [gt_put_ne _ _ _ _ d35]; exact z5⟩
 clear ha3 z0 z1 z2 z3 z4 z5 z6
 obtain ⟨z0, z1, z2, z3, z4, z5⟩ := z'
 obtain ⟨aa, nn, cc, hvs⟩ : ∃ aa nn cc, v = .slice aa nn cc := by
  rcases hv.2 with ⟨rfl, _⟩ | ⟨o, c, rfl, _⟩
  ·exact ⟨_, _, _, rfl⟩
  ·exact ⟨_, _, _, rfl⟩
 refine wp_seq (wp_region_lit (st_move ?_))
 rw [eval_tmp, z3]
 obtain ⟨a4, ha4⟩ : ∃ a4 : Act, a4 = a3.put (some q.u) v := ⟨_, rfl⟩
 rw [← ha4]
 have z' : a4.tmps.size = fn.ntmps ∧ a4.defers = [] ∧ gt a4 0 = .pointer (some ⟨b, 0, none⟩) ∧ gt a4 2 = .bool ub ∧ gt a4 q.rs = .nilIface ∧ gt a4 q.u = v := by
  subst ha4
  exact ⟨by rw [put_size]; exact z0, by rw [put_defers]; exact z1, by rw [gt_put_ne _ _ _ _ d06]; exact z2, by rw [gt_put_ne _ _ _ _ d26]; exact z4, by rw [gt_put_ne _ _ _ _ d36]; exact z5, gt_put_same _ _ _ (by rw [z0]; exact le_of b4)⟩
 clear ha4 z0 z1 z2 z3 z4 z5
 obtain ⟨z0, z1, z2, z4, z5, z6⟩ := z'
 have hbuilt := run_build (P := P) w1 K.rty (#[(0, .tmp q.u)].map fun x => (x.1, a4.eval x.2)) #[v, .bool false] (by
  simp only [List.map_toArray, List.map_cons, List.map_nil, eval_tmp, z6]
  rw [hvs]; exact hT.built aa nn cc)
 refine st_of (o := ⟨some q.b, .build K.rty #[(0, .tmp q.u)], t5, p5, f5, none⟩) (v := .agg #[v, .bool false]) (w' := w1) rfl (by simp only [execOp, Sem.run_bind, hbuilt, Result.andThen_ok, Sem.run_pure]) ?_
 obtain ⟨a5, ha5⟩ : ∃ a5 : Act, a5 = a4.put (some q.b) (.agg #[v, .bool false]) := ⟨_, rfl⟩
 show wpList P _ _ _ (a4.put (some q.b) (.agg #[v, .bool false])) w1
 rw [← ha5]
 have z' : a5.tmps.size = fn.ntmps ∧ a5.defers = [] ∧ gt a5 0 = .pointer (some ⟨b, 0, none⟩) ∧ gt a5 2 = .bool ub ∧ gt a5 q.rs = .nilIface ∧ gt a5 q.b = .agg #[v, .bool false] := by
  subst ha5
  exact ⟨by rw [put_size]; exact z0, by rw [put_defers]; exact z1, by rw [gt_put_ne _ _ _ _ d07]; exact z2, by rw [gt_put_ne _ _ _ _ d27]; exact z4, by rw [gt_put_ne _ _ _ _ d37]; exact z5, gt_put_same _ _ _ (by rw [z0]; exact le_of b5)⟩
 clear ha5 z0 z1 z2 z4 z5 z6
 obtain ⟨z0, z1, z2, z4, z5, z6⟩ := z'
 refine st_of (o := ⟨some q.r, .alloc K.rty, t6, p6, f6, none⟩) (v := .pointer (some ⟨w1.heap.size, 0, none⟩)) (w' := w1.alloc (.cells #[.slice none 0 0, .bool false] K.rty)) rfl (by simp [execOp, Instr.alloc, hT.zero, newVar, newRow, Value.cells]) ?_
 obtain ⟨a6, ha6⟩ : ∃ a6 : Act, a6 = a5.put (some q.r) (.pointer (some ⟨w1.heap.size, 0, none⟩)) := ⟨_, rfl⟩
 show wpList P _ _ _ (a5.put (some q.r) (.pointer (some ⟨w1.heap.size, 0, none⟩))) _
 rw [← ha6]
 have z' : a6.tmps.size = fn.ntmps ∧ a6.defers = [] ∧ gt a6 0 = .pointer (some ⟨b, 0, none⟩) ∧ gt a6 2 = .bool ub ∧ gt a6 q.rs = .nilIface ∧ gt a6 q.b = .agg #[v, .bool false] ∧ gt a6 q.r = .pointer (some ⟨w1.heap.size, 0, none⟩) := by
  subst ha6
  exact ⟨by rw [put_size]; exact z0, by rw [put_defers]; exact z1, by rw [gt_put_ne _ _ _ _ d08]; exact z2, by rw [gt_put_ne _ _ _ _ d28]; exact z4, by rw [gt_put_ne _ _ _ _ d38]; exact z5, by rw [gt_put_ne _ _ _ _ d78]; exact z6, gt_put_same _ _ _ (by rw [z0]; exact le_of b6)⟩
 clear ha6 z0 z1 z2 z4 z5 z6
 obtain ⟨z0, z1, z2, z4, z5, z6, z7⟩ := z'
 have hbx : Box (w1.alloc (.cells #[.slice none 0 0, .bool false] K.rty)) w1.heap.size [.slice none 0 0, .bool false] K.rty := box_alloc w1 _ _
 have hal : Chg (fun _ => False) w1 (w1.alloc (.cells #[.slice none 0 0, .bool false] K.rty)) := chg_alloc w1 _ _
 have hsz2 : (w1.alloc (.cells #[.slice none 0 0, .bool false] K.rty)).heap.size = w1.heap.size + 1 := by simp
 generalize w1.alloc (.cells #[.slice none 0 0, .bool false] K.rty) = w2 at hbx hal hsz2 ⊢
 refine st_storeSeg (b := w1.heap.size) (off := 0) (A := []) (C := []) (seg := [.slice none 0 0, .bool false]) (vs := [v, .bool false]) (by rw [eval_tmp, z7]) (by rw [eval_tmp, z6]) (by simp [Value.cells]) hT.size (by rw [hvs]; rfl) (by simpa using hbx) rfl rfl (fun w3 hb3 hg3 => ?_)
 have hc3 : Chg (· = w1.heap.size) w2 w3 := Chg.grown hg3
 have hsz := hc1.size
 have hbsz := hb.lt
 have cc : Chg (fun j => j = b ∨ j = w1.heap.size) w w3 := (hc1.wide (fun j hj => .inl hj)).trans ((hal.wide (fun j hj => hj.elim)).trans (hc3.wide (fun j hj => .inr hj)))
 have hb3' : Box w3 w1.heap.size [v, .bool false] K.rty := by simpa using hb3
 have hbb : Box w3 b cs1 e := ((by simpa using hb1 : Box w1 b cs1 e).chg hal id).chg hc3 (by omega)
 have hrdr : Rdr w3 w1.heap.size sb (some s) := by
  refine ⟨v, K.rty, hb3', hv.1, ?_, fun hz => ?_⟩
  ·rcases hv.2 with h | ⟨o, c, e1, e2, e3, e4⟩
   ·exact .inl ⟨h.1, h.2.1⟩
   ·exact .inr ⟨o, c, e1, e2, e3.chg cc (by rintro (h | h); exact hne h.symm; omega), e4⟩
  ·rcases hv.2 with h | ⟨o, c, e1, e2, e3, e4⟩
   ·exact absurd h.2.2 hz
   ·rw [e1]; simp
 have hgg : w3.cell? ⟨g, 0, none⟩ = some ev := by
  have hg3' : w3.heap[g]? = w.heap[g]? := cc.block g hgl (by rintro (h | h); exact hgb h; omega)
  simp only [World.cell?] at hg ⊢
  rw [hg3']; exact hg
 have kn : KnW fn.ntmps w1.heap.size (a6.put none undef) [(0, .at_ 0 0), (2, .val (.bool ub)), (q.rs, .val .nilIface), (q.r, .rdr)] [(b, 0)] [] [0] := by
  refine ⟨z0, z1, fun t x e => ?_⟩
  have e' := lkW_mem e
  simp only [List.mem_cons, List.not_mem_nil, or_false, Prod.mk.injEq] at e'
  show _ = some (gt a6 t)
  rcases e' with ⟨rfl, rfl⟩ | ⟨rfl, rfl⟩ | ⟨rfl, rfl⟩ | ⟨rfl, rfl⟩
  ·rw [z2]; rfl
  ·rw [z4]; rfl
  ·rw [z5]; rfl
  ·rw [z7]; rfl
 have hst := startSU_ok (g := g) (ev := ev) (lo := w1.heap.size + 1) kn hbb hrdr (by omega) (by omega) (by omega) (by have := hc3.size; omega) (by omega) (by omega) hne hgg (by omega) (by omega) hgb
 have hs3 := hc3.size
 exact k _ w3 _ _ hsz (Nat.lt_succ_self _) cc hst
def isAt0 (A : WA) : Bool := match lkW A 0 with
 | some (.at_ 0 0) => true
 | _ => false
def i16At0 : List Ck → Bool
 | .int .i16 :: _ => true
 | _ => false
def verR (P : Program) (N : Nat) (S : RS) (lo hi : Int) : Code → Option RS
 | .region _ ⟨[⟨some a, .move (.tmp 0), _, _, _, none⟩, ⟨some b, .nilCheck (.tmp a2), _, _, _, none⟩, ⟨some c, .fieldAddr t (.tmp b2) fi, _, _, _, none⟩, ⟨some d, .load ty (.tmp c2), _, _, _, none⟩, ⟨some e, .assign (.tmp d2), _, _, _, none⟩]⟩ false =>
  bif Nat.beq a a2 && Nat.beq b b2 && Nat.beq c c2 && Nat.beq d d2 && Nat.blt a N && Nat.blt b N && Nat.blt c N && Nat.blt d N && Nat.blt e N && tyOne P ty && optEq (fieldOff P t fi) (some 0) && isAt0 S.A && isNo S.pd && i16At0 S.shp then
   some (({ S with A := dropW (dropW (dropW (dropW (dropW S.A a) b) c) d) e } : RS).new e (.rng lo hi)) else none
 | _ => none
def isV0 : List Ra → Bool
 | .prim .i16 0 :: _ => true
 | _ => false
def onlyV0 : List Ra → Bool
 | [.prim .i16 0] => true
 | _ => false
def preV (P : Program) (K : Kr) (f : Nat) (cs : List Value) (ub : Bool) : Option (Func × Hd × List Value × RS × Code × Code) := match P.funcs[f]? with
 | some fn => (match fn.body with
  | some c => (match headF K fn.ntmps c with
   | some q => bif isFn P f && resIs fn.results q.rs && Nat.ble 3 fn.ntmps then (match defF P q.f with
    | some l => (match setAll l cs with
     | some cs' => (match q.rest with
      | .seq c3 (.seq vr rest) => (match runR K P fn.ntmps q.rs 4000 0 [] [] (startSU q cs' ub) c3 with
       | some (S, [], false) => bif onlyV0 S.acts && i16At0 (shDs (litsD S.dfl)) then some (fn, q, cs', S, vr, rest) else none
       | _ => none)
      | _ => none)
     | none => none)
    | none => none) else none
   | none => none)
  | none => none)
 | none => none
def readFV (P : Program) (K : Kr) (f : Nat) (cs : List Value) (ub : Bool) (lo hi : Int) : Option (List Value × List Ra) := match preV P K f cs ub with
 | some x => (match verR P x.1.ntmps x.2.2.2.1 lo hi x.2.2.2.2.1 with
  | some S2 => (match runR K P x.1.ntmps x.2.1.rs 4000 0 [] [] S2 x.2.2.2.2.2 with
   | some (S, _, true) => bif isNo S.pd && isV0 S.acts then some (S.dfl, S.acts) else none
   | _ => none)
  | none => none)
 | none => none
theorem preV_out {f : Nat} {cs : List Value} {ub : Bool} {x : Func × Hd × List Value × RS × Code × Code} (h : preV P K f cs ub = some x) : ∃ c c3 l, P.funcs[f]? = some x.1 ∧ x.1.body = some c ∧ headF K x.1.ntmps c = some x.2.1 ∧ isFn P f = true ∧ resIs x.1.results x.2.1.rs = true ∧ 3 ≤ x.1.ntmps ∧ defF P x.2.1.f = some l ∧ setAll l cs = some x.2.2.1 ∧
  x.2.1.rest = .seq c3 (.seq x.2.2.2.2.1 x.2.2.2.2.2) ∧ runR K P x.1.ntmps x.2.1.rs 4000 0 [] [] (startSU x.2.1 x.2.2.1 ub) c3 = some (x.2.2.2.1, [], false) ∧ x.2.2.2.1.acts = [.prim .i16 0] ∧ i16At0 (shDs (litsD x.2.2.2.1.dfl)) = true := by
 unfold preV at h
 split at h
 ·rename_i fn hfn
  split at h
  ·rename_i c hc
   split at h
   ·rename_i q hq
    cases hb : isFn P f && resIs fn.results q.rs && Nat.ble 3 fn.ntmps with
    | false => rw [hb] at h; cases h
    | true =>
     rw [hb] at h
     simp only [cond_true] at h
     simp only [Bool.and_eq_true] at hb
     split at h
     ·rename_i l hl
      split at h
      ·rename_i cs' hs
       split at h
       ·rename_i c3 vr rest hr
        split at h
        ·rename_i S hrun
         cases ho : onlyV0 S.acts && i16At0 (shDs (litsD S.dfl)) with
         | false => rw [ho] at h; cases h
         | true =>
          rw [ho] at h
          simp only [cond_true, Option.some.injEq] at h
          subst h
          rw [Bool.and_eq_true] at ho
          refine ⟨c, c3, l, hfn, hc, hq, hb.1.1, hb.1.2, Nat.le_of_ble_eq_true hb.2, hl, hs, hr, hrun, ?_, ho.2⟩
          have h1 := ho.1
          unfold onlyV0 at h1
          split at h1
          ·assumption
          ·cases h1
        ·cases h
       ·cases h
      ·cases h
     ·cases h
   ·cases h
  ·cases h
 ·cases h
theorem i16At0_out {l : List Ck} (h : i16At0 l = true) : ∃ r, l = .int .i16 :: r := by
 unfold i16At0 at h
 split at h
 ·exact ⟨_, rfl⟩
 ·cases h
theorem isAt0_out {A : WA} (h : isAt0 A = true) : lkW A 0 = some (.at_ 0 0) := by
 unfold isAt0 at h
 split at h
 ·assumption
 ·cases h
theorem cs0_int {ok : Nat → Prop} {ds : List D} {cs : List Value} {r : List Ck} (hr : Reps ok w ds cs) (hs : shDs ds = .int .i16 :: r) : ∃ V, cs[0]? = some (.int .i16 V) ∧ IntKind.i16.wrap V = V := by
 have hl := Reps.len _ _ hr
 rw [← shs_width, hs] at hl
 cases cs with
 | nil => simp at hl
 | cons v cs =>
  obtain ⟨m, h1, h2⟩ := reps_ck _ _ hr 0 (.int .i16) v (by rw [hs]; rfl) rfl
  exact ⟨m, by rw [h1]; rfl, h2⟩
theorem verR_no {N : Nat} {S S2 : RS} {lo hi : Int} {c : Code} (h : verR P N S lo hi c = some S2) : S.pd = .no := by
 unfold verR at h
 split at h
 ·rename_i id ta t1 p1 f1 tb a2 t2 p2 f2 tc t b2 fi t3 p3 f3 td ty c2 t4 p4 f4 te d2 t5 p5 f5
  cases hc : Nat.beq ta a2 && Nat.beq tb b2 && Nat.beq tc c2 && Nat.beq td d2 && Nat.blt ta N && Nat.blt tb N && Nat.blt tc N && Nat.blt td N && Nat.blt te N && tyOne P ty && optEq (fieldOff P t fi) (some 0) && isAt0 S.A && isNo S.pd && i16At0 S.shp with
  | false => rw [hc] at h; cases h
  | true =>
   simp only [Bool.and_eq_true] at hc
   exact isNo_out hc.1.2
 ·cases h
theorem verR_ok {N rb sb : Nat} {rows : List (Nat × Nat × Nat)} {zs : List (Nat × List Value)} {S : RS} {Ad : List (Nat × Nat)} {R : List Value} {I : List Int} {it : Wi} {sst st0 st : Option (List UInt8)} {a : Act} (H : RAt N g rb sb ev 0 rows zs S Ad R I it sst st0 st a w) {vr : Code} {cls : Int → Int × Int} (hcls : ∀ V, IntKind.i16.wrap V = V → (cls V).1 ≤ V ∧ V ≤ (cls V).2)
  (h : ∀ V, IntKind.i16.wrap V = V → (verR P N S (cls V).1 (cls V).2 vr).isSome = true) {Q : Exit → Act → World → Prop}
  (hq : ∀ V S2 a', IntKind.i16.wrap V = V → it.cs[0]? = some (.int .i16 V) → verR P N S (cls V).1 (cls V).2 vr = some S2 → S2.acts = S.acts → RAt N g rb sb ev 0 rows zs S2 Ad (R ++ [.int .i16 V]) I it sst st0 st a' w → Q .normal a' w) : vr.wp P Q a w := by
 have h0 := h 0 rfl
 rw [Option.isSome_iff_exists] at h0
 obtain ⟨S0, h0⟩ := h0
 have hv0 := h0
 unfold verR at h0
 split at h0
 ·rename_i id ta t1 p1 f1 tb a2 t2 p2 f2 tc t b2 fi t3 p3 f3 td ty c2 t4 p4 f4 te d2 t5 p5 f5
  cases hc : Nat.beq ta a2 && Nat.beq tb b2 && Nat.beq tc c2 && Nat.beq td d2 && Nat.blt ta N && Nat.blt tb N && Nat.blt tc N && Nat.blt td N && Nat.blt te N && tyOne P ty && optEq (fieldOff P t fi) (some 0) && isAt0 S.A && isNo S.pd && i16At0 S.shp with
  | false => rw [hc] at h0; cases h0
  | true =>
   have hc' := hc
   simp only [Bool.and_eq_true] at hc
   obtain ⟨⟨⟨⟨⟨⟨⟨⟨⟨⟨⟨⟨⟨g1, g2⟩, g3⟩, g4⟩, g5⟩, g6⟩, g7⟩, g8⟩, g9⟩, g10⟩, g11⟩, g12⟩, g13⟩, g14⟩ := hc
   have e1 := beq_out g1; subst e1
   have e2 := beq_out g2; subst e2
   have e3 := beq_out g3; subst e3
   have e4 := beq_out g4; subst e4
   have hoff : fieldOff P t fi = some 0 := by
    cases ho : fieldOff P t fi with
    | none => rw [ho] at g11; cases g11
    | some o => rw [ho] at g11; rw [beq_out g11]
   obtain ⟨r, hsh⟩ := i16At0_out g14
   obtain ⟨V, hcs, hV⟩ := cs0_int H.ds (by rw [H.sh.1]; exact hsh)
   have hno := isNo_out g13
   have hst : st = st0 := by have := H.pd; rw [hno] at this; exact this
   have hk0 := H.kn.at_ 0 _ (isAt0_out g12)
   have had := H.ad
   simp only [denW, had, Option.map_some, Option.some.injEq] at hk0
   have hcell : w.cell? ⟨it.b, it.pre.length, none⟩ = some (.int .i16 V) := by have := H.box.at hcs; simpa using this
   have lt : ∀ {x : Nat}, Nat.blt x N = true → x < N := fun h => Nat.le_of_ble_eq_true h
   refine wp_region_lit (st_move ?_)
   rw [eval_tmp, ← hk0]
   have k1 := H.kn.putOff (t := ta) (.pointer (some ⟨it.b, it.pre.length + 0, none⟩))
   have q1 : gt (a.put (some ta) (.pointer (some ⟨it.b, it.pre.length + 0, none⟩))) ta = .pointer (some ⟨it.b, it.pre.length + 0, none⟩) := gt_put_same _ _ _ (by rw [H.kn.size]; exact lt g5)
   generalize a.put (some ta) (.pointer (some ⟨it.b, it.pre.length + 0, none⟩)) = a1 at *
   refine st_nilCheck q1 ?_
   have k2 := k1.putOff (t := tb) (.pointer (some ⟨it.b, it.pre.length + 0, none⟩))
   have q2 : gt (a1.put (some tb) (.pointer (some ⟨it.b, it.pre.length + 0, none⟩))) tb = .pointer (some ⟨it.b, it.pre.length + 0, none⟩) := gt_put_same _ _ _ (by rw [k1.size]; exact lt g6)
   generalize a1.put (some tb) (.pointer (some ⟨it.b, it.pre.length + 0, none⟩)) = a2 at *
   refine st_fieldAddr q2 hoff ?_
   rw [add_plain _ _ rfl]
   have k3 := k2.putOff (t := tc) (.pointer (some ⟨it.b, it.pre.length + 0 + 0, none⟩))
   have q3 : gt (a2.put (some tc) (.pointer (some ⟨it.b, it.pre.length + 0 + 0, none⟩))) tc = .pointer (some ⟨it.b, it.pre.length + 0 + 0, none⟩) := gt_put_same _ _ _ (by rw [k2.size]; exact lt g7)
   generalize a2.put (some tc) (.pointer (some ⟨it.b, it.pre.length + 0 + 0, none⟩)) = a3 at *
   refine st_load q3 g10 (by simpa using hcell) ?_
   have k4 := k3.putOff (t := td) (.int .i16 V)
   have q4 : gt (a3.put (some td) (.int .i16 V)) td = .int .i16 V := gt_put_same _ _ _ (by rw [k3.size]; exact lt g8)
   generalize a3.put (some td) (.int .i16 V) = a4 at *
   refine st_assign ?_
   rw [eval_tmp, q4]
   have k5 := k4.putOff (t := te) (.int .i16 V)
   have q5 : gt (a4.put (some te) (.int .i16 V)) te = .int .i16 V := gt_put_same _ _ _ (by rw [k4.size]; exact lt g9)
   have hin := hcls V hV
   have hfin : verR P N S (cls V).1 (cls V).2 (.region id ⟨[⟨some ta, .move (.tmp 0), t1, p1, f1, none⟩, ⟨some tb, .nilCheck (.tmp ta), t2, p2, f2, none⟩, ⟨some tc, .fieldAddr t (.tmp tb) fi, t3, p3, f3, none⟩, ⟨some td, .load ty (.tmp tc), t4, p4, f4, none⟩, ⟨some te, .assign (.tmp td), t5, p5, f5, none⟩]⟩ false) = some (({ S with A := dropW (dropW (dropW (dropW (dropW S.A ta) tb) tc) td) te } : RS).new te (.rng (cls V).1 (cls V).2)) := by
    simp only [verR]
    rw [hc']
    rfl
   have hn := H.next (A := dropW (dropW (dropW (dropW (dropW S.A ta) tb) tc) td) te) (t := te) (h := .rng (cls V).1 (cls V).2) (pd := .no) (zs' := zs) (v := .int .i16 V) (Chg.refl _ w) ⟨V, rfl, hin.1, hin.2⟩ trivial k5 q5 hst
   refine hq V _ _ hV hcs hfin rfl ?_
   have e : ({ (({ S with A := dropW (dropW (dropW (dropW (dropW S.A ta) tb) tc) td) te } : RS).new te (.rng (cls V).1 (cls V).2)) with pd := .no } : RS) = (({ S with A := dropW (dropW (dropW (dropW (dropW S.A ta) tb) tc) td) te } : RS).new te (.rng (cls V).1 (cls V).2)) := by
    simp only [RS.new]
    rw [hno]
   rw [← e]
   exact hn
 ·cases h0
def rdV (acts : Int → List Ra) (dfl : List Value) (s : List UInt8) : Option (List D × List UInt8) := match intP .i16 2 s with
 | some x => rdAs (acts x.1) (litsD dfl) s
 | none => none
theorem rdAs_v0 {acts : List Ra} (h : isV0 acts = true) {ds : List D} {s : List UInt8} (hn : intP .i16 2 s = none) : rdAs acts ds s = none := by
 unfold isV0 at h
 split at h
 ·simp only [rdAs, rdA, rdP, hn]
  rfl
 ·cases h
theorem rd_v0 {dfl : List Value} {s : List UInt8} {x : Int × List UInt8} {r : List Ck} (hx : intP .i16 2 s = some x) (hs : shDs (litsD dfl) = .int .i16 :: r) : ∃ tl, rdAs [.prim .i16 0] (litsD dfl) s = some (.lit (.int .i16 x.1) :: tl, x.2) := by
 cases dfl with
 | nil => simp [litsD, shDs] at hs
 | cons d dfl =>
  have hw : shDs [D.lit d] = shDs [D.lit (.int .i16 x.1)] := by
   have h1 : shDs (D.lit d :: litsD dfl) = .int .i16 :: r := hs
   have h2 : shDs [D.lit d] ++ shDs (litsD dfl) = .int .i16 :: r := by rw [← shDs_append]; exact h1
   have h3 : (shDs [D.lit d]).length = 1 := by rw [shs_width]; rfl
   obtain ⟨y, hy⟩ := List.length_eq_one_iff.1 h3
   rw [hy] at h2
   simp only [List.cons_append, List.nil_append, List.cons.injEq] at h2
   rw [hy, h2.1]
   have hwr : IntKind.i16.wrap x.1 = x.1 := by
    simp only [intP, Option.map_eq_some_iff] at hx
    obtain ⟨z, _, rfl⟩ := hx
    exact wrap_wrap _ _
   simp [shDs, shD, hwr]
  refine ⟨litsD dfl, ?_⟩
  have hp := putD_in (a := []) (m := [D.lit d]) (b := litsD dfl) (new := [D.lit (.int .i16 x.1)]) (fun d hd => by cases hd) (fun d hd => by rw [List.mem_singleton] at hd; subst hd; exact Nat.one_pos) hw
  simp only [D.widths, List.nil_append, List.cons_append] at hp
  simp only [rdAs, rdA, rdP, hx, Option.map_some, Option.bind_some]
  have e : litsD (d :: dfl) = D.lit d :: litsD dfl := rfl
  rw [e, hp]
  rfl
theorem readFV_ok (hK : KrOk P K g ev) (hT : KrTy P K) {f : Nat} {ub : Bool} {cs dfl : List Value} {acts : Int → List Ra} {cls : Int → Int × Int} (hcls : ∀ V, IntKind.i16.wrap V = V → (cls V).1 ≤ V ∧ V ≤ (cls V).2)
  (h : ∀ V, IntKind.i16.wrap V = V → readFV P K f cs ub (cls V).1 (cls V).2 = some (dfl, acts V)) {b sb : Nat} {e : TypeId} {v : Value} {s : List UInt8} (hb : Box w b cs e) (hv : SrcAt w sb v s) (hsb : sb < w.heap.size) (hne : b ≠ sb)
  (hg : w.cell? ⟨g, 0, none⟩ = some ev) (hgb : g ≠ b) (hgl : g < w.heap.size) :
  isFn P f = true ∧ Calls P f #[.pointer (some ⟨b, 0, none⟩), v, .bool ub] w fun en w' => Chg (fun j => j = b ∨ w.heap.size ≤ j) w w' ∧ match rdV acts dfl s with
   | some x => en = .returned .nilIface ∧ ∃ cs' lo, w.heap.size ≤ lo ∧ Box w' b cs' e ∧ Reps (Dk sb lo w') w' x.1 cs' ∧ shDs x.1 = shDs (litsD dfl)
   | none => en = .returned ev := by
 cases hpre : preV P K f cs ub with
 | none =>
  have := h 0 rfl
  unfold readFV at this
  rw [hpre] at this
  cases this
 | some x =>
  obtain ⟨fn, q, cs1, S1, vr, rest⟩ := x
  obtain ⟨c, c3, l, hfn, hbody, hq, hf, hres, hn3, hl, hset, hrest, hrun3, hacts1, hsh1⟩ := preV_out hpre
  simp only at hfn hbody hq hf hres hn3 hl hset hrest hrun3 hacts1 hsh1
  have hres := resIs_out hres
  have hcl : ∀ V, IntKind.i16.wrap V = V → ∃ S2 S zs, verR P fn.ntmps S1 (cls V).1 (cls V).2 vr = some S2 ∧ runR K P fn.ntmps q.rs 4000 0 [] [] S2 rest = some (S, zs, true) ∧ S.pd = .no ∧ isV0 (acts V) = true ∧ S.dfl = dfl ∧ S.acts = acts V := by
   intro V hV
   have h1 := h V hV
   unfold readFV at h1
   rw [hpre] at h1
   simp only at h1
   split at h1
   ·rename_i S2 h2
    split at h1
    ·rename_i S zs h3
     cases hno : isNo S.pd && isV0 S.acts with
     | false => rw [hno] at h1; cases h1
     | true =>
      rw [hno] at h1
      simp only [cond_true, Option.some.injEq, Prod.mk.injEq] at h1
      rw [Bool.and_eq_true] at hno
      exact ⟨S2, S, zs, h2, h3, isNo_out hno.1, by rw [← h1.2]; exact hno.2, h1.1, h1.2⟩
    ·cases h1
   ·cases h1
  refine ⟨hf, headU hT hfn hbody hq hn3 hl hset hb hv hsb hne hg hgb hgl (fun a w3 rb lo hrb hrl cc hst => ?_)⟩
  rw [hrest]
  refine wp_seq (runR_ok hK _ _ _ _ _ _ _ _ _ hrun3 _ _ _ _ _ _ _ _ _ _ hst ?_ ?_)
  ·intro R1 it1 st1 st1' a1 w4 f1 H1 _
   simp only [Bool.false_eq_true, if_false]
   show Code.wp P _ _ _ _
   refine wp_seq (verR_ok H1 hcls (fun V hV => by obtain ⟨S2, _, _, h2, _⟩ := hcl V hV; rw [h2]; rfl) (fun V S2 a2 hV hcs hS2 hac H2 => ?_))
   show Code.wp P _ _ _ _
   obtain ⟨S2', S, zs, h2, hrun, hnp, hv0, h1, h2'⟩ := hcl V hV
   rw [hS2] at h2
   cases h2
   have hVs : ∀ y, intP .i16 2 s = some y → y.1 = V := by
    intro y hy
    obtain ⟨r, hr⟩ := i16At0_out hsh1
    obtain ⟨tl, ht⟩ := rd_v0 hy hr
    have hrel := H1.rel.2
    rw [hacts1] at hrel
    simp only [ht] at hrel
    have hds := H1.ds
    rw [hrel.2] at hds
    simp only [Reps, Rep] at hds
    obtain ⟨c1, c2, e1, e2, _⟩ := hds
    rw [e1, e2] at hcs
    simpa using hcs
   have hrd : ∀ o, rdAs (acts V) (litsD dfl) s = o → rdV acts dfl s = o := by
    intro o ho
    unfold rdV
    cases hi : intP .i16 2 s with
    | none => rw [rdAs_v0 hv0 hi] at ho; exact ho
    | some y => rw [← hVs y hi] at ho; exact ho
   have f1lo := f1.lo
   have f1b := f1.b
   simp only at f1lo f1b
   have cc1 : Chg (fun j => j = b ∨ w.heap.size ≤ j) w w4 := (cc.wide (fun j hj => by rcases hj with h | h; exact .inl h; exact .inr (by omega))).trans (f1.chg.wide (fun j hj => by simp only [] at hj; rcases hj with h | h | h; exact .inr (by omega); exact .inl h; exact .inr (by omega)))
   refine runR_ok hK _ _ _ _ _ _ _ _ _ hrun _ _ _ _ _ _ _ _ _ _ H2 ?_ ?_
   ·intro R' it' st0' st' a' w' f2 H' hr
    obtain ⟨hpd, hrs⟩ := hr rfl
    have hp := H'.pd
    rw [hpd] at hp
    have hp' : st' = st0' := hp
    subst hp'
    have hrel := H'.rel
    rw [h1, h2'] at hrel
    obtain ⟨hsh, hrel⟩ := hrel
    simp only [] at hrel
    have hchg : Chg (fun j => j = b ∨ w.heap.size ≤ j) w w' := cc1.trans (f2.chg.wide (fun j hj => by rw [f1lo, f1b] at hj; rcases hj with h | h | h; exact .inr (by omega); exact .inl h; exact .inr (by omega)))
    cases hs : rdAs (acts V) (litsD dfl) s with
    | some x =>
     rw [hs] at hrel
     obtain ⟨hst', hds⟩ := hrel
     rw [hrd _ hs]
     refine ⟨H'.kn.defers, .nilIface, ?_, hchg, rfl, it'.cs, lo, by omega, ?_, ?_, ?_⟩
     ·rw [results_tmp hres]
      have : gt a' q.rs = .nilIface := by rw [hrs, hst']; rfl
      simp only [gt] at this
      rw [this]
     ·have := H'.box
      rw [f2.b, f2.pre, f2.post, f2.e, f1.b, f1.pre, f1.post, f1.e] at this
      simpa using this
     ·have := H'.ds
      rw [hds, f2.lo, f1.lo] at this
      exact this
     ·rw [← hds]; exact hsh
    | none =>
     rw [hs] at hrel
     rw [hrd _ hs]
     refine ⟨H'.kn.defers, ev, ?_, hchg, rfl⟩
     rw [results_tmp hres]
     have hrel' : st' = none := hrel
     have : gt a' q.rs = ev := by rw [hrs, hrel']; rfl
     simp only [gt] at this
     rw [this]
   ·intro a' w' hB hF
    have := hF s rfl
    unfold Fails at this
    have hn : rdAs (acts V) (litsD dfl) s = none := by
     cases hs : rdAs (acts V) (litsD dfl) s with
     | none => rfl
     | some x =>
      have h3 := this x (by rw [h1, h2']; exact hs)
      rw [hnp] at h3
      exact h3.elim
    obtain ⟨k1, k2, k3, _, _⟩ := hB
    refine ⟨k1, ev, ?_, ?_, ?_⟩
    ·rw [results_tmp hres]
     simp only [gt] at k2
     rw [k2]
    ·exact cc1.trans (k3.wide (fun j hj => by rw [f1lo, f1b] at hj; rcases hj with h | h | h; exact .inr (by omega); exact .inl h; exact .inr (by omega)))
    ·rw [hrd _ hn]
  ·intro a' w' hB hF
   have hF := hF s rfl
   unfold Fails at hF
   obtain ⟨S2, _, _, h2, _⟩ := hcl 0 rfl
   have hno := verR_no h2
   have hn : intP .i16 2 s = none := by
    cases hi : intP .i16 2 s with
    | none => rfl
    | some y =>
     obtain ⟨r, hr⟩ := i16At0_out hsh1
     obtain ⟨tl, ht⟩ := rd_v0 hi hr
     have := hF _ (by rw [hacts1]; exact ht)
     rw [hno] at this
     exact this.elim
   have hv : rdV acts dfl s = none := by unfold rdV; rw [hn]
   obtain ⟨k1, k2, k3, _, _⟩ := hB
   refine ⟨k1, ev, ?_, ?_, ?_⟩
   ·rw [results_tmp hres]
    simp only [gt] at k2
    rw [k2]
   ·exact (cc.wide (fun j hj => by rcases hj with h | h; exact .inl h; exact .inr (by omega))).trans (k3.wide (fun j hj => by simp only [] at hj; rcases hj with h | h | h; exact .inr (by omega); exact .inl h; exact .inr (by omega)))
   ·rw [hv]
end
end Go.Proofs.YtlmnaffhadeolaaGreatDoor

namespace Go.Proofs.YtlmnaffhadeolaaGreatDoor
open Go Go.RowKit
def Tree.setN (n : Int) : Tree → Tree
 | .mk _ s nl l u => .mk n s nl l u
theorem fine_setN {T : Tree} (n : Int) (h : fine T) : fine (T.setN n) := by
 cases T
 simpa only [Tree.setN, fine] using h
theorem rep_setN {ok : Nat → Prop} {w : World} {T : Tree} {cs : List Value} (n : Int) (h : Rep ok w (treeD T) cs) : Rep ok w (treeD (T.setN n)) (cs.set 0 (.int .i64 n)) := by
 cases T
 simp only [Tree.setN, treeD, Rep, Reps] at h ⊢
 obtain ⟨c1, c2, rfl, rfl, h2⟩ := h
 exact ⟨[.int .i64 n], c2, rfl, rfl, h2⟩
def ComesV (tg : Bool) (fs : List Fld) (dfl : List Value) (acts : Int → List Ra) (xs : List UInt8) : Option Tree → Prop
 | none => rdV acts dfl xs = none
 | some T => ∃ V rest r ds' T0, rdV acts dfl xs = some (.lit (.int .i16 V) :: rest, r) ∧ T = T0.setN V ∧ Imp rest ds' ∧ TellP tg fs ds' T0 ∧ fine T0 ∧ ∀ T', TellP tg fs ds' T' → T' = T0
def readOkV (P : Program) (K : Kr) (f : Nat) (tg : Bool) (fs : List Fld) (cs : List Value) (lo hi : Int) : Bool := match readFV P K f cs false lo hi with
 | some x => litsOk (.n .i16 :: ctP tg fs) x.1 && okAs (.n .i16 :: ctP tg fs) x.2 && ziEs x.1 cs
 | none => false
def actsV (P : Program) (K : Kr) (f : Nat) (cs : List Value) (cls : Int → Int × Int) (V : Int) : List Ra := match readFV P K f cs false (cls V).1 (cls V).2 with
 | some x => x.2
 | none => []
theorem readOkV_out {P : Program} {K : Kr} {f : Nat} {tg : Bool} {fs : List Fld} {cs : List Value} {cls : Int → Int × Int} {V : Int} (h : readOkV P K f tg fs cs (cls V).1 (cls V).2 = true) : litsOk (.n .i16 :: ctP tg fs) cs = true ∧ okAs (.n .i16 :: ctP tg fs) (actsV P K f cs cls V) = true ∧ readFV P K f cs false (cls V).1 (cls V).2 = some (cs, actsV P K f cs cls V) := by
 unfold readOkV at h
 split at h
 ·rename_i x hx
  simp only [Bool.and_eq_true] at h
  have hz := ziEs_out h.2
  have ha : actsV P K f cs cls V = x.2 := by unfold actsV; rw [hx]
  rw [ha]
  refine ⟨by rw [← hz]; exact h.1.1, h.1.2, ?_⟩
  rw [hx, ← hz]
 ·cases h
theorem comesV {P : Program} {K : Kr} {f : Nat} {tg : Bool} {fs : List Fld} {cs : List Value} {cls : Int → Int × Int} (h : ∀ V, readOkV P K f tg fs cs (cls V).1 (cls V).2 = true) (hs : ∀ V, readFV P K f cs true (cls V).1 (cls V).2 = readFV P K f cs false (cls V).1 (cls V).2) (hc : covs fs = true) (hk : fsok fs = true) :
  (∀ ub V, readFV P K f cs ub (cls V).1 (cls V).2 = some (cs, actsV P K f cs cls V)) ∧ ∀ xs : List UInt8, xs.length ≤ 1000 → ∃ o, ComesV tg fs cs (actsV P K f cs cls) xs o := by
 refine ⟨fun ub V => ?_, fun xs hl => ?_⟩
 ·cases ub with
  | false => exact (readOkV_out (h V)).2.2
  | true => rw [hs]; exact (readOkV_out (h V)).2.2
 ·cases hr : rdV (actsV P K f cs cls) cs xs with
  | none => exact ⟨none, hr⟩
  | some y =>
   have hr0 := hr
   unfold rdV at hr
   split at hr
   ·rename_i z hz
    obtain ⟨k1, k2, _⟩ := readOkV_out (h z.1)
    obtain ⟨h1, _⟩ := rdAs_typed (M := 1000) (actsV P K f cs cls z.1) _ k2 (litsD cs) xs y hl (lits_typed k1) hr
    obtain ⟨ds, r⟩ := y
    simp only [Typeds] at h1
    obtain ⟨d0, rest, rfl, t0, t1⟩ := h1
    simp only [Typed] at t0
    obtain ⟨V, rfl⟩ := t0
    obtain ⟨ds', i, T, j1, j2, j3⟩ := told_P (by omega) hc hk t1
    exact ⟨some (T.setN V), V, rest, r, ds', T, hr0, rfl, i, j1, j2, j3⟩
   ·cases hr
def canOk (tg : Bool) (m : Msg) (dfl : List Value) (acts : List Ra) : Bool :=
 isV0 acts && (match mPz 0 tg (m.flexible 0) 1 m.fields (acts.drop 1) with | some [] => true | _ => false) && zbP 0 tg m.fields (dfl.drop 1) && decide (shDs (litsD (dfl.drop 1)) = shP tg m.fields) && tabFs 0 m.fields && noPts m.fields && (!(m.flexible 0) || tg)
theorem canV {acts : Int → List Ra} {dfl : List Value} {tg : Bool} {m : Msg} (h1 : dfl = .int .i16 0 :: dfl.drop 1) (h : canOk tg m dfl (acts 0) = true) : (rdV acts dfl (be 2 0 ++ write m 0 Tree.none)).isSome = true := by
 simp only [canOk, Bool.and_eq_true, Bool.or_eq_true, Bool.not_eq_true', decide_eq_true_eq] at h
 obtain ⟨⟨⟨⟨⟨⟨hv, hm⟩, hz⟩, hs⟩, htab⟩, hno⟩, htg⟩ := h
 have htg' : m.flexible 0 = true → tg = true := fun e => by
  rcases htg with h | h
  ·rw [e] at h; cases h
  ·exact h
 obtain ⟨hfit, hwire⟩ := fitt_ok htab Tree.ok_none (m.flexible 0)
 split at hm
 ·rename_i hmp
  have hR := mPz_ok htg' hno hmp hfit
  rw [hwire] at hR
  have hZ := zbP_out hno hz hs
  obtain ⟨n1, n2, e1, _⟩ := hR [.lit (.int .i16 0)] (litsD (dfl.drop 1)) [] [] hs hZ (fun d hd => by rw [List.mem_singleton] at hd; subst hd; rfl) (unit_lits _) rfl
  have hi : intP .i16 2 (be 2 0 ++ write m 0 Tree.none) = some (0, write m 0 Tree.none) := by rw [intP_be .i16 2 16 rfl rfl]; rfl
  have hr : rdV acts dfl (be 2 0 ++ write m 0 Tree.none) = rdAs (acts 0) (litsD dfl) (be 2 0 ++ write m 0 Tree.none) := by unfold rdV; rw [hi]
  rw [hr]
  unfold isV0 at hv
  split at hv
  ·rename_i r ha
   rw [ha] at e1 ⊢
   have hp := putD_in (a := []) (m := [D.lit (.int .i16 0)]) (b := litsD (dfl.drop 1)) (new := [D.lit (.int .i16 0)]) (fun d hd => by cases hd) (fun d hd => by rw [List.mem_singleton] at hd; subst hd; exact Nat.one_pos) rfl
   simp only [D.widths, List.nil_append, List.cons_append] at hp
   have hd : litsD dfl = .lit (.int .i16 0) :: litsD (dfl.drop 1) := by
    have e : litsD dfl = litsD (.int .i16 0 :: dfl.drop 1) := by rw [← h1]
    exact e
   simp only [rdAs, rdA, rdP, hi, Option.map_some, Option.bind_some]
   rw [hd, hp]
   simp only [Option.map_some, Option.bind_some]
   simp only [List.drop_succ_cons, List.drop_zero, List.append_nil, List.cons_append, List.nil_append] at e1
   have e2 : write m 0 Tree.none = wPart 0 (m.flexible 0) m.fields Tree.none := rfl
   rw [e2, e1]
   simp only [rdAs, Option.isSome_some]
  ·cases hv
 ·cases hm
end Go.Proofs.YtlmnaffhadeolaaGreatDoor

namespace Go.Proofs.YtlmnaffhadeolaaGreatDoor.BGroupMetadataValue
open Go Go.RowKit
def sGroupMetadataValueMember : List Fld := [.mk 8 0 (-1) (-1) (-1) 0 0 [], .mk 8 3 (-1) 3 (-1) 0 0 [], .mk 8 0 (-1) (-1) (-1) 0 0 [], .mk 8 0 (-1) (-1) (-1) 0 0 [], .mk 3 1 (-1) (-1) (-1) (-1) 0 [], .mk 3 0 (-1) (-1) (-1) 0 0 [], .mk 9 0 (-1) (-1) (-1) 0 0 [], .mk 9 0 (-1) (-1) (-1) 0 0 []]
def m : Msg := ⟨[.mk 8 0 (-1) (-1) (-1) 0 0 [], .mk 3 0 (-1) (-1) (-1) 0 0 [], .mk 8 0 (-1) 0 (-1) 0 0 [], .mk 8 0 (-1) 0 (-1) 0 0 [], .mk 4 2 (-1) (-1) (-1) (-1) 0 [], .mk 11 0 (-1) (-1) (-1) 0 10 sGroupMetadataValueMember], 4⟩
theorem m_ok : fsok m.fields = true := by decide
def tbl : Tbl := ⟨[(30, 0, 0), (30, 1, 1), (85, 0, 0), (35, 0, 0)], [22]⟩
theorem tbl_ok : tbl.ok Tryz.prog = true := by kernel_rfl
theorem ws {ops : Array Oper} {Q : Exit → Act → World → Prop} {N : Nat} {rest : List Oper} {L : Sl} {w : World} {d : Nat} {ty : TypeId} {pos : String} {aft : Array Edge} {o : Op} {v : Value}
  (hs : stepOp tbl L o = some v) (hd : Nat.blt d N = true) (h : WL rest Tryz.prog ops Q N ((d, v) :: L) w) : WL (⟨some d, o, ty, pos, aft, none⟩ :: rest) Tryz.prog ops Q N L w := wl_step tbl tbl_ok hs hd h
theorem zv_msg (w : World) : (zeroValue 30).run Tryz.prog w = .ok (.agg #[.slice none 0 0, .int .i64 0]) w := by kernel_rfl
theorem rt_flds : rowTy Tryz.prog 28 55 8 = true := by kernel_rfl
theorem to_i16 : tyOne Tryz.prog 57 = true := by kernel_rfl
section
set_option maxRecDepth 100000
set_option maxHeartbeats 4000000
theorem fn_tsGroupMetadataValueMember (w : World) : Fn 44 [] w fun v w' => Rep (Frs w.heap.size w'.heap.size) w' (.sq (sGroupMetadataValueMember.map fldD)) [v] := by
 refine enter Tryz.func44 rfl Tryz.ntmps44 rfl ?_
 repeat first|(with_reducible first|apply wc_seq|apply wc_region|apply wl_nil|apply qk_thn)|((with_reducible apply ws);exact rfl;exact rfl)
 have hW : Below w.heap.size w w := ⟨rfl, rfl, rfl, Nat.le_refl _, fun _ _ => rfl⟩
 refine wl_build rfl (cs := [.int .i64 8, .int .i64 0, .int .i64 (-1), .int .i64 (-1), .int .i64 (-1), .int .i64 0, .int .i64 0, .slice none 0 0]) (by kernel_rfl) rfl ?_
 refine wl_build rfl (cs := [.int .i64 8, .int .i64 3, .int .i64 (-1), .int .i64 3, .int .i64 (-1), .int .i64 0, .int .i64 0, .slice none 0 0]) (by kernel_rfl) rfl ?_
 refine wl_build rfl (cs := [.int .i64 8, .int .i64 0, .int .i64 (-1), .int .i64 (-1), .int .i64 (-1), .int .i64 0, .int .i64 0, .slice none 0 0]) (by kernel_rfl) rfl ?_
 refine wl_build rfl (cs := [.int .i64 8, .int .i64 0, .int .i64 (-1), .int .i64 (-1), .int .i64 (-1), .int .i64 0, .int .i64 0, .slice none 0 0]) (by kernel_rfl) rfl ?_
 refine wl_build rfl (cs := [.int .i64 3, .int .i64 1, .int .i64 (-1), .int .i64 (-1), .int .i64 (-1), .int .i64 (-1), .int .i64 0, .slice none 0 0]) (by kernel_rfl) rfl ?_
 refine wl_build rfl (cs := [.int .i64 3, .int .i64 0, .int .i64 (-1), .int .i64 (-1), .int .i64 (-1), .int .i64 0, .int .i64 0, .slice none 0 0]) (by kernel_rfl) rfl ?_
 refine wl_build rfl (cs := [.int .i64 9, .int .i64 0, .int .i64 (-1), .int .i64 (-1), .int .i64 (-1), .int .i64 0, .int .i64 0, .slice none 0 0]) (by kernel_rfl) rfl ?_
 refine wl_build rfl (cs := [.int .i64 9, .int .i64 0, .int .i64 (-1), .int .i64 (-1), .int .i64 (-1), .int .i64 0, .int .i64 0, .slice none 0 0]) (by kernel_rfl) rfl ?_
 refine wl_sliceN [[.int .i64 8, .int .i64 0, .int .i64 (-1), .int .i64 (-1), .int .i64 (-1), .int .i64 0, .int .i64 0, .slice none 0 0], [.int .i64 8, .int .i64 3, .int .i64 (-1), .int .i64 3, .int .i64 (-1), .int .i64 0, .int .i64 0, .slice none 0 0], [.int .i64 8, .int .i64 0, .int .i64 (-1), .int .i64 (-1), .int .i64 (-1), .int .i64 0, .int .i64 0, .slice none 0 0], [.int .i64 8, .int .i64 0, .int .i64 (-1), .int .i64 (-1), .int .i64 (-1), .int .i64 0, .int .i64 0, .slice none 0 0], [.int .i64 3, .int .i64 1, .int .i64 (-1), .int .i64 (-1), .int .i64 (-1), .int .i64 (-1), .int .i64 0, .slice none 0 0], [.int .i64 3, .int .i64 0, .int .i64 (-1), .int .i64 (-1), .int .i64 (-1), .int .i64 0, .int .i64 0, .slice none 0 0], [.int .i64 9, .int .i64 0, .int .i64 (-1), .int .i64 (-1), .int .i64 (-1), .int .i64 0, .int .i64 0, .slice none 0 0], [.int .i64 9, .int .i64 0, .int .i64 (-1), .int .i64 (-1), .int .i64 (-1), .int .i64 0, .int .i64 0, .slice none 0 0]] rt_flds rfl rfl (by simp) rfl rfl rfl (fun w2 hbS hgS hsS => ?_)
 have hs_2 := below_of hgS (Nat.le_refl _) (by simp)
 have hz := hW.size
 replace hW := hW.trans (hs_2.mono hW.size)
 have hfin : Rep (Frs w.heap.size w2.heap.size) w2 (.sq (sGroupMetadataValueMember.map fldD)) [.slice (some ⟨w.heap.size, 0, none⟩) 8 8] := by
  simp only [Rep]
  exact ⟨_, 8, rfl, Nat.le_refl _, .inr ⟨w.heap.size, 0, _, rfl, ⟨hz, hbS.lt⟩, hbS.cells, (reps_fcons (rep_fld0 _ _ (.mk 8 0 (-1) (-1) (-1) 0 0 []) rfl) (reps_fcons (rep_fld0 _ _ (.mk 8 3 (-1) 3 (-1) 0 0 []) rfl) (reps_fcons (rep_fld0 _ _ (.mk 8 0 (-1) (-1) (-1) 0 0 []) rfl) (reps_fcons (rep_fld0 _ _ (.mk 8 0 (-1) (-1) (-1) 0 0 []) rfl) (reps_fcons (rep_fld0 _ _ (.mk 3 1 (-1) (-1) (-1) (-1) 0 []) rfl) (reps_fcons (rep_fld0 _ _ (.mk 3 0 (-1) (-1) (-1) 0 0 []) rfl) (reps_fcons (rep_fld0 _ _ (.mk 9 0 (-1) (-1) (-1) 0 0 []) rfl) (reps_fcons (rep_fld0 _ _ (.mk 9 0 (-1) (-1) (-1) 0 0 []) rfl) reps_fnil))))))))⟩⟩
 repeat first|(with_reducible first|apply wl_nil|apply qk_thn|apply wc_ret)|((with_reducible apply ws);exact rfl;exact rfl)
 exact qk_ret1 rfl rfl ⟨_, rfl, hW, hfin⟩
theorem fn_table (w : World) : Fn 15 [] w fun v w' => ∃ fv, v = .agg #[fv, .int .i64 m.flex] ∧ Sq w'.heap.size w' fv (m.fields.map fldD) := by
 refine enter Tryz.func15 rfl Tryz.ntmps15 rfl ?_
 repeat (with_reducible first|apply wc_seq|apply wc_region)
 refine wl_alloc zv_msg rfl rfl (fun w1 hb1 hg1 hs1 => ?_)
 have hs_1 := below_of hg1 (Nat.le_refl _) (by simp)
 repeat (with_reducible first|apply wc_seq|apply wc_region|apply wl_nil|apply qk_thn)
 have hW : Below w1.heap.size w1 w1 := ⟨rfl, rfl, rfl, Nat.le_refl _, fun _ _ => rfl⟩
 refine wl_build rfl (cs := [.int .i64 8, .int .i64 0, .int .i64 (-1), .int .i64 (-1), .int .i64 (-1), .int .i64 0, .int .i64 0, .slice none 0 0]) (by kernel_rfl) rfl ?_
 refine wl_build rfl (cs := [.int .i64 3, .int .i64 0, .int .i64 (-1), .int .i64 (-1), .int .i64 (-1), .int .i64 0, .int .i64 0, .slice none 0 0]) (by kernel_rfl) rfl ?_
 refine wl_build rfl (cs := [.int .i64 8, .int .i64 0, .int .i64 (-1), .int .i64 0, .int .i64 (-1), .int .i64 0, .int .i64 0, .slice none 0 0]) (by kernel_rfl) rfl ?_
 refine wl_build rfl (cs := [.int .i64 8, .int .i64 0, .int .i64 (-1), .int .i64 0, .int .i64 (-1), .int .i64 0, .int .i64 0, .slice none 0 0]) (by kernel_rfl) rfl ?_
 refine wl_build rfl (cs := [.int .i64 4, .int .i64 2, .int .i64 (-1), .int .i64 (-1), .int .i64 (-1), .int .i64 (-1), .int .i64 0, .slice none 0 0]) (by kernel_rfl) rfl ?_
 refine wl_call rfl (by kernel_rfl) rfl ((fn_tsGroupMetadataValueMember w1).mono ?_)
 rintro e w2 ⟨sv, rfl, hs_2, hsq5⟩
 obtain ⟨a5, c5, rfl⟩ := rep_sqshape hsq5
 refine ⟨_, rfl, ?_⟩
 replace hsq5 := rep_frw hsq5 hW.size
 replace hW := hW.trans (hs_2.mono hW.size)
 replace hb1 := hb1.below hs_2 hb1.lt
 refine wl_build rfl (cs := [.int .i64 11, .int .i64 0, .int .i64 (-1), .int .i64 (-1), .int .i64 (-1), .int .i64 0, .int .i64 10, .slice a5 (sGroupMetadataValueMember.map fldD).length c5]) (by kernel_rfl) rfl ?_
 refine wl_sliceN [[.int .i64 8, .int .i64 0, .int .i64 (-1), .int .i64 (-1), .int .i64 (-1), .int .i64 0, .int .i64 0, .slice none 0 0], [.int .i64 3, .int .i64 0, .int .i64 (-1), .int .i64 (-1), .int .i64 (-1), .int .i64 0, .int .i64 0, .slice none 0 0], [.int .i64 8, .int .i64 0, .int .i64 (-1), .int .i64 0, .int .i64 (-1), .int .i64 0, .int .i64 0, .slice none 0 0], [.int .i64 8, .int .i64 0, .int .i64 (-1), .int .i64 0, .int .i64 (-1), .int .i64 0, .int .i64 0, .slice none 0 0], [.int .i64 4, .int .i64 2, .int .i64 (-1), .int .i64 (-1), .int .i64 (-1), .int .i64 (-1), .int .i64 0, .slice none 0 0], [.int .i64 11, .int .i64 0, .int .i64 (-1), .int .i64 (-1), .int .i64 (-1), .int .i64 0, .int .i64 10, .slice a5 (sGroupMetadataValueMember.map fldD).length c5]] rt_flds rfl rfl (by simp) rfl rfl rfl (fun w3 hbS hgS hsS => ?_)
 have hs_3 := below_of hgS (Nat.le_refl _) (by simp)
 have hz := hW.size
 replace hsq5 := rep_fr hsq5 hs_3 (Nat.le_refl _)
 replace hW := hW.trans (hs_3.mono hW.size)
 replace hb1 := hb1.below hs_3 hb1.lt
 have hfin : Rep (Frs w1.heap.size w3.heap.size) w3 (.sq (m.fields.map fldD)) [.slice (some ⟨w2.heap.size, 0, none⟩) 6 6] := by
  simp only [Rep]
  exact ⟨_, 6, rfl, Nat.le_refl _, .inr ⟨w2.heap.size, 0, _, rfl, ⟨hz, hbS.lt⟩, hbS.cells, (reps_fcons (rep_fld0 _ _ (.mk 8 0 (-1) (-1) (-1) 0 0 []) rfl) (reps_fcons (rep_fld0 _ _ (.mk 3 0 (-1) (-1) (-1) 0 0 []) rfl) (reps_fcons (rep_fld0 _ _ (.mk 8 0 (-1) 0 (-1) 0 0 []) rfl) (reps_fcons (rep_fld0 _ _ (.mk 8 0 (-1) 0 (-1) 0 0 []) rfl) (reps_fcons (rep_fld0 _ _ (.mk 4 2 (-1) (-1) (-1) (-1) 0 []) rfl) (reps_fcons (rep_fldS hsq5) reps_fnil))))))⟩⟩
 refine wl_build rfl (cs := [.slice (some ⟨w2.heap.size, 0, none⟩) 6 6, .int .i64 4]) (by kernel_rfl) rfl ?_
 refine wl_storeBAgg (vs := [.slice (some ⟨w2.heap.size, 0, none⟩) 6 6, .int .i64 4]) rfl rfl rfl tz_msg rfl hb1 rfl (fun wz hbz hgz hsz => ?_)
 repeat (with_reducible first|apply wl_nil|apply qk_thn|apply wc_ret)
 have hW0 := hs_1.trans (hW.mono hs_1.size)
 refine qk_retCell (cs := [.slice (some ⟨w2.heap.size, 0, none⟩) 6 6, .int .i64 4]) rfl rfl ta_msg hbz ⟨_, rfl, hW0.trans (below_of hgz hW0.size (by intro q hq; simp at hq; omega)), _, rfl, ?_⟩
 exact Rep.mono (fun b hb => ⟨by have := hb.2; simp only [Lo]; omega, hgz.block b hb.2 (by have := hb.1; simp; omega)⟩) _ _ hfin
noncomputable def z0 : List Value := match Tryz.prog.info? 85 with | some i => (match i.zero with | some z => z.cells.toList | none => []) | none => []
noncomputable def d0 : List Value := match (defF Tryz.prog 73).bind fun l => setAll l z0 with | some cs => cs | none => []
theorem d0_eq : (defF Tryz.prog 73).bind (fun l => setAll l z0) = some d0 := by kernel_rfl
theorem d0_hd : d0 = .int .i16 0 :: d0.drop 1 := by kernel_rfl
theorem zv (w : World) : (zeroValue 85).run Tryz.prog w = .ok (.agg z0.toArray) w := by kernel_rfl
theorem d0l : d0.length = 8 := by kernel_rfl
theorem d0_one : (d0.all fun v => v.oneCell') = true := by kernel_rfl
theorem zl : z0.length = 8 := by kernel_rfl
theorem ta_m : tyAgg Tryz.prog 85 = some 8 := by kernel_rfl
theorem tz_m : (Tryz.prog.info? 85).map (·.size) = some 8 := by kernel_rfl
theorem to_i64 : tyOne Tryz.prog 2 = true := by kernel_rfl
theorem fn_new (w : World) : Calls Tryz.prog 41 #[] w fun e w' => e = .returned (.agg d0.toArray) ∧ Below w.heap.size w w' := by
 obtain ⟨l, hl, hset⟩ := Option.bind_eq_some_iff.1 d0_eq
 refine enter (vs := []) Tryz.func41 rfl Tryz.ntmps41 rfl ?_
 repeat (with_reducible first|apply wc_seq|apply wc_region)
 refine wl_alloc zv rfl rfl (fun w1 hb1 hg1 hs1 => ?_)
 repeat (with_reducible first|apply wc_seq|apply wc_region|apply wl_nil|apply qk_thn)
 refine wl_alloc zv rfl rfl (fun w2 hb2 hg2 hs2 => ?_)
 repeat (with_reducible first|apply wc_seq|apply wc_region|apply wl_nil|apply qk_thn)
 have hdef := defF_ok (w := w2) hl (b := w1.heap.size) (pre := []) (cs := z0) (post := []) (cs' := d0) (e := 85) (by simpa using hb2) hset
 refine wl_call rfl hdef.1 rfl (hdef.2.mono ?_)
 rintro e w3 ⟨rfl, hb3, hc3⟩
 refine ⟨_, rfl, ?_⟩
 repeat (with_reducible first|apply wc_seq|apply wc_region|apply wl_nil|apply qk_thn)
 have hb3' : Box w3 w1.heap.size d0 85 := by simpa using hb3
 have hw1 : Below w.heap.size w w1 := below_of hg1 (Nat.le_refl _) (by simp)
 have hw2 : Below w1.heap.size w1 w2 := below_of hg2 (Nat.le_refl _) (by simp)
 have hw3 : Below w1.heap.size w2 w3 := chg_below hc3 (fun j hj h => by have : j = w1.heap.size := h; omega) (by omega)
 have hw13 := hw2.trans hw3
 have hz13 := hw13.size
 have hb13 := hb1.below hw13 hb1.lt
 refine wl_loadBAgg (cs := d0) rfl (by rw [d0l]; exact ta_m) rfl hb3' ?_
 refine wl_storeBAgg (vs := d0) rfl rfl rfl (by rw [d0l]; exact tz_m) d0_one hb13 (by rw [zl, d0l]) (fun w4 hb4 hg4 hs4 => ?_)
 repeat (with_reducible first|apply wl_nil|apply qk_thn|apply wc_ret)
 exact qk_retCell (cs := d0) rfl rfl (by rw [d0l]; exact ta_m) hb4 ⟨rfl, (hw1.trans (hw13.mono hw1.size)).trans (below_of hg4 (by have := hw1.size; omega) (by intro q hq; simp at hq; omega))⟩
theorem cov_m : covs m.fields = true := by decide
def cls (V : Int) : Int × Int := if V < 1 then (-32768, 0) else if V < 2 then (1, 1) else if V < 3 then (2, 2) else if V < 4 then (3, 3) else (4, 32767)
theorem cls_in (V : Int) (h : IntKind.i16.wrap V = V) : (cls V).1 ≤ V ∧ V ≤ (cls V).2 := by
 rw [wrap_i16] at h
 unfold cls
 repeat' split
 all_goals (constructor <;> simp only [] <;> omega)
theorem ok_0 : readOkV Tryz.prog Rdk.kru 74 true m.fields d0 (-32768) 0 = true := by kernel_rfl
theorem one_0 : readFV Tryz.prog Rdk.kru 74 d0 true (-32768) 0 = readFV Tryz.prog Rdk.kru 74 d0 false (-32768) 0 := by kernel_rfl
theorem ok_1 : readOkV Tryz.prog Rdk.kru 74 true m.fields d0 1 1 = true := by kernel_rfl
theorem one_1 : readFV Tryz.prog Rdk.kru 74 d0 true 1 1 = readFV Tryz.prog Rdk.kru 74 d0 false 1 1 := by kernel_rfl
theorem ok_2 : readOkV Tryz.prog Rdk.kru 74 true m.fields d0 2 2 = true := by kernel_rfl
theorem one_2 : readFV Tryz.prog Rdk.kru 74 d0 true 2 2 = readFV Tryz.prog Rdk.kru 74 d0 false 2 2 := by kernel_rfl
theorem ok_3 : readOkV Tryz.prog Rdk.kru 74 true m.fields d0 3 3 = true := by kernel_rfl
theorem one_3 : readFV Tryz.prog Rdk.kru 74 d0 true 3 3 = readFV Tryz.prog Rdk.kru 74 d0 false 3 3 := by kernel_rfl
theorem ok_4 : readOkV Tryz.prog Rdk.kru 74 true m.fields d0 4 32767 = true := by kernel_rfl
theorem one_4 : readFV Tryz.prog Rdk.kru 74 d0 true 4 32767 = readFV Tryz.prog Rdk.kru 74 d0 false 4 32767 := by kernel_rfl
theorem ok_all (V : Int) : readOkV Tryz.prog Rdk.kru 74 true m.fields d0 (cls V).1 (cls V).2 = true := by
 unfold cls
 repeat' split
 ·exact ok_0
 ·exact ok_1
 ·exact ok_2
 ·exact ok_3
 ·exact ok_4
theorem one_all (V : Int) : readFV Tryz.prog Rdk.kru 74 d0 true (cls V).1 (cls V).2 = readFV Tryz.prog Rdk.kru 74 d0 false (cls V).1 (cls V).2 := by
 unfold cls
 repeat' split
 ·exact one_0
 ·exact one_1
 ·exact one_2
 ·exact one_3
 ·exact one_4
noncomputable def acts : Int → List Ra := actsV Tryz.prog Rdk.kru 74 d0 cls
theorem rd : (∀ ub V, readFV Tryz.prog Rdk.kru 74 d0 ub (cls V).1 (cls V).2 = some (d0, acts V)) ∧ ∀ xs : List UInt8, xs.length ≤ 1000 → ∃ o, ComesV true m.fields d0 acts xs o := comesV ok_all one_all cov_m m_ok
def xs0 : List UInt8 := be 2 0 ++ write m 0 Tree.none
theorem xs0_eq : xs0 = [0, 0, 0, 0, 0, 0, 0, 0, 0, 0, 0, 0, 0, 0, 0, 0] := by kernel_rfl
theorem can0 : (rdV acts d0 xs0).isSome = true := canV (tg := true) d0_hd (by kernel_rfl)
theorem can : ∃ T, ComesV true m.fields d0 acts xs0 (some T) := by
 obtain ⟨o, ho⟩ := rd.2 xs0 (by rw [xs0_eq]; decide)
 cases o with
 | some T => exact ⟨T, ho⟩
 | none =>
  have h1 : rdV acts d0 xs0 = none := ho
  have h2 := can0
  rw [h1] at h2
  cases h2
theorem fo_t4 : fieldOff Tryz.prog 35 4 = some 4 := by kernel_rfl
set_option maxHeartbeats 4000000 in
theorem clo_GroupMetadataValueMember : ClC Tryz.prog 35 81 130 := by
 refine ⟨by kernel_rfl, fun w lo tb B hd d us k s val hU hhd hval hBt hk hs hmany => ?_⟩
 obtain ⟨a0, a1, a2, a3, rfl⟩ : ∃ a0 a1 a2 a3, hd = [a0, a1, a2, a3] := by
  match hd, hhd with
  | [a0, a1, a2, a3], _ => exact ⟨a0, a1, a2, a3, rfl⟩
 have hsq : Sq B w val (s.map byteD) := hval
 obtain ⟨va, vc, rfl, _⟩ := hsq.shape
 obtain ⟨da, dc, hds⟩ := hU.row.shape
 have hlo := hU.lt
 have hlw := hU.low
 have hdl := hU.row.low
 have hbx0 : Box w tb [a0, a1, a2, a3, d] 35 := hU.box
 refine enter (vs := [.int .u32 (k : Int), .slice va (s.map byteD).length vc, .pointer (some ⟨tb, 0, none⟩)]) Tryz.func130 rfl Tryz.ntmps130 rfl ?_
 refine wc_parS [(0, .pointer (some ⟨tb, 0 + 4, none⟩)), (1, d), (2, .int .u32 (k : Int)), (3, .slice va (s.map byteD).length vc), (8, .pointer (some ⟨tb, 0 + 4, none⟩))] [9, 7, 6, 5, 4]
  (fun vals w' => match vals with
   | [] => Chg (fun _ => False) w w'
   | [v] => Chg (fun _ => False) w w' ∧ (∃ a n c, v = .slice a n c) ∧ Rep (In 0 w.heap.size w') w' (bytesD s) [v]
   | [v, _] => Chg (fun _ => False) w w' ∧ ∃ sv, (∃ a n c, sv = .slice a n c) ∧ v = .agg ([.int .u32 (k : Int), sv] : List Value).toArray ∧ Rep (In 0 w.heap.size w') w' (bytesD s) [sv]
   | [v, _, _] => Chg (fun _ => False) w w' ∧ ∃ (b8 : Nat) (sv : Value), (∃ a n c, sv = .slice a n c) ∧ v = .slice (some ⟨b8, 0, none⟩) 1 1 ∧ Box w' b8 [.int .u32 (k : Int), sv] 81 ∧ Rep (In 0 w.heap.size w') w' (bytesD s) [sv]
   | [v, _, _, _] => Chg (fun j => d.ownBlock = some j) w w' ∧ Box w' tb [a0, a1, a2, a3, d] 35 ∧ RowD 0 lo tb 81 2 w' v ((us ++ [(k, s)]).map tagD)
   | _ :: v :: _ => Chg (fun j => j = tb ∨ d.ownBlock = some j) w w' ∧ Box w' tb [a0, a1, a2, a3, v] 35 ∧ RowD 0 lo tb 81 2 w' v ((us ++ [(k, s)]).map tagD))
  mixed rfl rfl rfl rfl rfl (by show ([0,1,2,3,8] : List Nat).Nodup; decide) rfl rfl (by decide) rfl rfl rfl rfl (chg_drew _ _) ?_ ⟨?_, ?_, ?_, ?_, ?_, trivial⟩ ?_
 ·intro p hp vals w' hC hnp a kn
  simp only [List.mem_cons, List.not_mem_nil, or_false] at hp
  rcases hp with rfl | rfl | rfl | rfl | rfl
  ·exact gv rfl rfl (rn_fieldAddr kn rfl fo_t4)
  ·have hbx : Box w' tb [a0, a1, a2, a3, d] 35 := by
    match vals, hC, hnp with
    | [], h, _ => exact hbx0.chg h (fun h => h)
    | [_], h, _ => exact hbx0.chg h.1 (fun h => h)
    | [_, _], h, _ => exact hbx0.chg h.1 (fun h => h)
    | [_, _, _], h, _ => exact hbx0.chg h.1 (fun h => h)
    | [_, _, _, _], h, _ => exact h.2.1
    | _ :: _ :: _ :: _ :: _ :: r, _, hnp =>
     have := hnp 9 (by rw [show ([9, 7, 6, 5, 4] : List Nat).length - (_ :: _ :: _ :: _ :: _ :: r).length = 0 from by simp only [List.length_cons, List.length_nil]; omega]; simp)
     exact absurd (show true = false from this) (by simp)
   exact gv rfl rfl (rn_load kn rfl Impl.to_tags (hbx.cell0 (i := 4) rfl))
  ·exact gv rfl rfl (rn_move kn rfl)
  ·exact gv rfl rfl (rn_move kn rfl)
  ·exact gv rfl rfl (rn_fieldAddr kn rfl fo_t4)
 ·rintro vals w' hvl hC a kn
  match vals, hvl with
  | [v7, v6, v5, v4], _ =>
   obtain ⟨hc, hbx, hrd⟩ := hC
   obtain ⟨a7, c7, rfl⟩ := hrd.shape
   refine ⟨_, rfl, does_storeB kn rfl rfl Impl.to_tags rfl hbx rfl (fun w'' hbx'' hg'' hs'' => ⟨?_, hbx'', hrd.stored hg''⟩)⟩
   exact (hc.wide (fun j h => .inr h)).trans ((Chg.grown hg'').wide (fun j h => .inl h))
 ·rintro vals w' hvl hC a kn
  match vals, hvl with
  | [v6, v5, v4], _ =>
   obtain ⟨hc, b8, sv, ⟨sa, sn, sc, rfl⟩, rfl, hb8, hrep⟩ := hC
   have hsz := hc.size
   have hrdw := hU.row.below ⟨hc.os, hc.tape, hc.output, hc.size, fun j hj => hc.block j hj (fun h => h)⟩
   obtain ⟨xs0, hrow0, hreps0⟩ := hrdw.row
   refine ⟨_, rfl, does_app1 kn Impl.rt_tags rfl rfl hb8 rfl rfl hrow0 (by omega) (by simp only [List.length_map]; omega) (fun d' w'' hrow'' hg'' => ⟨?_, ?_, ?_⟩)⟩
   ·have h2 : Chg (fun j => d.ownBlock = some j) w' w'' := ⟨hg''.grown.os, hg''.grown.tape, hg''.grown.output, hg''.grown.size, fun j hj hn => hg''.grown.block j hj (fun e => hn e.symm)⟩
    exact (hc.wide (fun j h => h.elim)).trans h2
   ·have hb := hbx0.chg hc (fun h => h)
    exact hb.kept hg''.grown (fun e => hU.row.apart e.symm)
   ·rw [List.map_append, List.map_cons, List.map_nil]
    refine hrdw.snoc (by omega) (by have := hbx0.lt; omega) hreps0 ?_ hrow'' hg''
    simp only [tagD, Rep, Reps]
    refine ⟨[_], _, rfl, rfl, [_], _, rfl, ?_, rfl⟩
    refine hrep.up (fun r hr => ⟨.inr (by rcases hr.1 with h | h; exact absurd h (Nat.not_lt_zero _); omega), hr.2, ?_, fun e => ?_⟩) (fun _ _ => rfl)
    ·rcases hr.1 with h | h
     ·exact absurd h (Nat.not_lt_zero _)
     ·have := hbx0.lt; omega
    ·rcases hr.1 with h | h
     ·exact absurd h (Nat.not_lt_zero _)
     ·have := (hdl r e).2; omega
 ·rintro vals w' hvl hC a kn
  match vals, hvl with
  | [v5, v4], _ =>
   obtain ⟨hc, sv, ⟨sa, sn, sc, rfl⟩, rfl, hrep⟩ := hC
   have hga := grown_alloc w' (.cells ([.int .u32 (k : Int), .slice sa sn sc] : List Value).toArray 81)
   refine ⟨_, rfl, does_slice1 (cs := [.int .u32 (k : Int), .slice sa sn sc]) kn Impl.rt_tags rfl rfl rfl rfl ⟨hc.trans (Chg.grown0 hga), _, _, ⟨sa, sn, sc, rfl⟩, rfl, box_alloc _ _ _, hrep.up (fun r hr => ⟨hr.1, by have := hr.2; simp; omega⟩) (fun r hr => hga.block r hr.2 (by simp))⟩⟩
 ·rintro vals w' hvl hC a kn
  match vals, hvl with
  | [v4], _ =>
   obtain ⟨hc, ⟨sa, sn, sc, rfl⟩, hrep⟩ := hC
   exact ⟨_, rfl, does_build (ps := [(0, .tmp 7), (1, .tmp 9)]) (cs := [.int .u32 (k : Int), .slice sa sn sc]) kn rfl (by kernel_rfl) ⟨hc, _, ⟨sa, sn, sc, rfl⟩, rfl, hrep⟩⟩
 ·rintro vals w' hvl hC a kn
  match vals, hvl with
  | [], _ =>
   have hsb : BytesAt w' (.slice va (s.map byteD).length vc) s := hsq.bytes.below ⟨hC.os, hC.tape, hC.output, hC.size, fun j hj => hC.block j hj (fun h => h)⟩
   refine ⟨_, rfl, does_appSl kn tb_bytes tb_bytes rfl rfl hsb (Own.nil w' w'.heap.size 5) (Nat.le_refl _) (by simpa using hs) (fun d' w'' ho hg => ?_)⟩
   rw [List.nil_append] at ho
   obtain ⟨oa, oc, rfl⟩ := ho.shape
   refine ⟨hC.trans (Chg.grown0 hg.grown), ⟨_, _, _, rfl⟩, own_rep (l0 := w.heap.size) ho hC.size⟩
 ·rintro vals w' hvl hC
  match vals, hvl with
  | [v9, v7, v6, v5, v4], _ =>
   obtain ⟨hc, hbx, hrd⟩ := hC
   exact qk_end0 rfl ⟨rfl, v7, ⟨hbx, hrd, hlo, by have := hc.size; omega⟩, hc⟩
set_option maxHeartbeats 4000000 in
theorem clo_GroupMetadataValue : ClC Tryz.prog 35 81 77 := by
 refine ⟨by kernel_rfl, fun w lo tb B hd d us k s val hU hhd hval hBt hk hs hmany => ?_⟩
 obtain ⟨a0, a1, a2, a3, rfl⟩ : ∃ a0 a1 a2 a3, hd = [a0, a1, a2, a3] := by
  match hd, hhd with
  | [a0, a1, a2, a3], _ => exact ⟨a0, a1, a2, a3, rfl⟩
 have hsq : Sq B w val (s.map byteD) := hval
 obtain ⟨va, vc, rfl, _⟩ := hsq.shape
 obtain ⟨da, dc, hds⟩ := hU.row.shape
 have hlo := hU.lt
 have hlw := hU.low
 have hdl := hU.row.low
 have hbx0 : Box w tb [a0, a1, a2, a3, d] 35 := hU.box
 refine enter (vs := [.int .u32 (k : Int), .slice va (s.map byteD).length vc, .pointer (some ⟨tb, 0, none⟩)]) Tryz.func77 rfl Tryz.ntmps77 rfl ?_
 refine wc_parS [(0, .pointer (some ⟨tb, 0 + 4, none⟩)), (1, d), (2, .int .u32 (k : Int)), (3, .slice va (s.map byteD).length vc), (8, .pointer (some ⟨tb, 0 + 4, none⟩))] [9, 7, 6, 5, 4]
  (fun vals w' => match vals with
   | [] => Chg (fun _ => False) w w'
   | [v] => Chg (fun _ => False) w w' ∧ (∃ a n c, v = .slice a n c) ∧ Rep (In 0 w.heap.size w') w' (bytesD s) [v]
   | [v, _] => Chg (fun _ => False) w w' ∧ ∃ sv, (∃ a n c, sv = .slice a n c) ∧ v = .agg ([.int .u32 (k : Int), sv] : List Value).toArray ∧ Rep (In 0 w.heap.size w') w' (bytesD s) [sv]
   | [v, _, _] => Chg (fun _ => False) w w' ∧ ∃ (b8 : Nat) (sv : Value), (∃ a n c, sv = .slice a n c) ∧ v = .slice (some ⟨b8, 0, none⟩) 1 1 ∧ Box w' b8 [.int .u32 (k : Int), sv] 81 ∧ Rep (In 0 w.heap.size w') w' (bytesD s) [sv]
   | [v, _, _, _] => Chg (fun j => d.ownBlock = some j) w w' ∧ Box w' tb [a0, a1, a2, a3, d] 35 ∧ RowD 0 lo tb 81 2 w' v ((us ++ [(k, s)]).map tagD)
   | _ :: v :: _ => Chg (fun j => j = tb ∨ d.ownBlock = some j) w w' ∧ Box w' tb [a0, a1, a2, a3, v] 35 ∧ RowD 0 lo tb 81 2 w' v ((us ++ [(k, s)]).map tagD))
  mixed rfl rfl rfl rfl rfl (by show ([0,1,2,3,8] : List Nat).Nodup; decide) rfl rfl (by decide) rfl rfl rfl rfl (chg_drew _ _) ?_ ⟨?_, ?_, ?_, ?_, ?_, trivial⟩ ?_
 ·intro p hp vals w' hC hnp a kn
  simp only [List.mem_cons, List.not_mem_nil, or_false] at hp
  rcases hp with rfl | rfl | rfl | rfl | rfl
  ·exact gv rfl rfl (rn_fieldAddr kn rfl fo_t4)
  ·have hbx : Box w' tb [a0, a1, a2, a3, d] 35 := by
    match vals, hC, hnp with
    | [], h, _ => exact hbx0.chg h (fun h => h)
    | [_], h, _ => exact hbx0.chg h.1 (fun h => h)
    | [_, _], h, _ => exact hbx0.chg h.1 (fun h => h)
    | [_, _, _], h, _ => exact hbx0.chg h.1 (fun h => h)
    | [_, _, _, _], h, _ => exact h.2.1
    | _ :: _ :: _ :: _ :: _ :: r, _, hnp =>
     have := hnp 9 (by rw [show ([9, 7, 6, 5, 4] : List Nat).length - (_ :: _ :: _ :: _ :: _ :: r).length = 0 from by simp only [List.length_cons, List.length_nil]; omega]; simp)
     exact absurd (show true = false from this) (by simp)
   exact gv rfl rfl (rn_load kn rfl Impl.to_tags (hbx.cell0 (i := 4) rfl))
  ·exact gv rfl rfl (rn_move kn rfl)
  ·exact gv rfl rfl (rn_move kn rfl)
  ·exact gv rfl rfl (rn_fieldAddr kn rfl fo_t4)
 ·rintro vals w' hvl hC a kn
  match vals, hvl with
  | [v7, v6, v5, v4], _ =>
   obtain ⟨hc, hbx, hrd⟩ := hC
   obtain ⟨a7, c7, rfl⟩ := hrd.shape
   refine ⟨_, rfl, does_storeB kn rfl rfl Impl.to_tags rfl hbx rfl (fun w'' hbx'' hg'' hs'' => ⟨?_, hbx'', hrd.stored hg''⟩)⟩
   exact (hc.wide (fun j h => .inr h)).trans ((Chg.grown hg'').wide (fun j h => .inl h))
 ·rintro vals w' hvl hC a kn
  match vals, hvl with
  | [v6, v5, v4], _ =>
   obtain ⟨hc, b8, sv, ⟨sa, sn, sc, rfl⟩, rfl, hb8, hrep⟩ := hC
   have hsz := hc.size
   have hrdw := hU.row.below ⟨hc.os, hc.tape, hc.output, hc.size, fun j hj => hc.block j hj (fun h => h)⟩
   obtain ⟨xs0, hrow0, hreps0⟩ := hrdw.row
   refine ⟨_, rfl, does_app1 kn Impl.rt_tags rfl rfl hb8 rfl rfl hrow0 (by omega) (by simp only [List.length_map]; omega) (fun d' w'' hrow'' hg'' => ⟨?_, ?_, ?_⟩)⟩
   ·have h2 : Chg (fun j => d.ownBlock = some j) w' w'' := ⟨hg''.grown.os, hg''.grown.tape, hg''.grown.output, hg''.grown.size, fun j hj hn => hg''.grown.block j hj (fun e => hn e.symm)⟩
    exact (hc.wide (fun j h => h.elim)).trans h2
   ·have hb := hbx0.chg hc (fun h => h)
    exact hb.kept hg''.grown (fun e => hU.row.apart e.symm)
   ·rw [List.map_append, List.map_cons, List.map_nil]
    refine hrdw.snoc (by omega) (by have := hbx0.lt; omega) hreps0 ?_ hrow'' hg''
    simp only [tagD, Rep, Reps]
    refine ⟨[_], _, rfl, rfl, [_], _, rfl, ?_, rfl⟩
    refine hrep.up (fun r hr => ⟨.inr (by rcases hr.1 with h | h; exact absurd h (Nat.not_lt_zero _); omega), hr.2, ?_, fun e => ?_⟩) (fun _ _ => rfl)
    ·rcases hr.1 with h | h
     ·exact absurd h (Nat.not_lt_zero _)
     ·have := hbx0.lt; omega
    ·rcases hr.1 with h | h
     ·exact absurd h (Nat.not_lt_zero _)
     ·have := (hdl r e).2; omega
 ·rintro vals w' hvl hC a kn
  match vals, hvl with
  | [v5, v4], _ =>
   obtain ⟨hc, sv, ⟨sa, sn, sc, rfl⟩, rfl, hrep⟩ := hC
   have hga := grown_alloc w' (.cells ([.int .u32 (k : Int), .slice sa sn sc] : List Value).toArray 81)
   refine ⟨_, rfl, does_slice1 (cs := [.int .u32 (k : Int), .slice sa sn sc]) kn Impl.rt_tags rfl rfl rfl rfl ⟨hc.trans (Chg.grown0 hga), _, _, ⟨sa, sn, sc, rfl⟩, rfl, box_alloc _ _ _, hrep.up (fun r hr => ⟨hr.1, by have := hr.2; simp; omega⟩) (fun r hr => hga.block r hr.2 (by simp))⟩⟩
 ·rintro vals w' hvl hC a kn
  match vals, hvl with
  | [v4], _ =>
   obtain ⟨hc, ⟨sa, sn, sc, rfl⟩, hrep⟩ := hC
   exact ⟨_, rfl, does_build (ps := [(0, .tmp 7), (1, .tmp 9)]) (cs := [.int .u32 (k : Int), .slice sa sn sc]) kn rfl (by kernel_rfl) ⟨hc, _, ⟨sa, sn, sc, rfl⟩, rfl, hrep⟩⟩
 ·rintro vals w' hvl hC a kn
  match vals, hvl with
  | [], _ =>
   have hsb : BytesAt w' (.slice va (s.map byteD).length vc) s := hsq.bytes.below ⟨hC.os, hC.tape, hC.output, hC.size, fun j hj => hC.block j hj (fun h => h)⟩
   refine ⟨_, rfl, does_appSl kn tb_bytes tb_bytes rfl rfl hsb (Own.nil w' w'.heap.size 5) (Nat.le_refl _) (by simpa using hs) (fun d' w'' ho hg => ?_)⟩
   rw [List.nil_append] at ho
   obtain ⟨oa, oc, rfl⟩ := ho.shape
   refine ⟨hC.trans (Chg.grown0 hg.grown), ⟨_, _, _, rfl⟩, own_rep (l0 := w.heap.size) ho hC.size⟩
 ·rintro vals w' hvl hC
  match vals, hvl with
  | [v9, v7, v6, v5, v4], _ =>
   obtain ⟨hc, hbx, hrd⟩ := hC
   exact qk_end0 rfl ⟨rfl, v7, ⟨hbx, hrd, hlo, by have := hc.size; omega⟩, hc⟩
def k0 : Tk := ⟨35, 149, 75, 129, 66, 68, [130, 77], 81, []⟩
theorem k0_ok : TkOk Tryz.prog k0 true := ⟨Tlk.tty, (fun _ => Tlk.boolP), (fun _ => Tlk.textP), (fun _ => Tlk.octsP), fun f fs h => by cases h⟩
theorem k0_tg : TgOk Tryz.prog k0 := ⟨Tlk.eachP, Tlk.sortP, fun f h => by
 simp only [k0, List.contains_eq_mem, decide_eq_true_eq, List.mem_cons, List.not_mem_nil, or_false] at h
 rcases h with rfl | rfl
 ·exact clo_GroupMetadataValueMember
 ·exact clo_GroupMetadataValue⟩
theorem tell_sGroupMetadataValueMember : TlPo Tryz.prog 76 true 0 sGroupMetadataValueMember := tellFn_ok k0_ok (fun _ => k0_tg) mixed (by kernel_rfl)
def k1 : Tk := ⟨k0.tT, k0.bool, k0.text, k0.octs, k0.each, k0.sorted, k0.clos, k0.gT, (76, sGroupMetadataValueMember) :: k0.tells⟩
theorem k1_ok : TkOk Tryz.prog k1 true := Tlk.tk_cons k0_ok tell_sGroupMetadataValueMember
theorem k1_tg : TgOk Tryz.prog k1 := Tlk.tg_cons k0_tg _ _
theorem tell_top : TlPo Tryz.prog 43 true 1 m.fields := tellFn_ok k1_ok (fun _ => k1_tg) mixed (by kernel_rfl)
theorem fn_readT (w : World) (ev sv : Value) (b sb : Nat) (xs : List UInt8) (hb : Box w b d0 85) (hs : SrcAt w sb sv xs) (hsb : sb < w.heap.size) (hne : b ≠ sb)
  (hg : w.cell? ⟨1, 0, none⟩ = some ev) (hgb : 1 ≠ b) (hgl : 1 < w.heap.size) :
  Calls Tryz.prog 42 #[.pointer (some ⟨b, 0, none⟩), sv] w fun en w' => Chg (fun j => j = b ∨ w.heap.size ≤ j) w w' ∧ match rdV acts d0 xs with
   | some x => en = .returned .nilIface ∧ ∃ cs' lo, w.heap.size ≤ lo ∧ Box w' b cs' 85 ∧ Reps (Dk sb lo w') w' x.1 cs' ∧ shDs x.1 = shDs (litsD d0)
   | none => en = .returned ev := by
 have hr := readFV_ok (Rdk.kru_ok ev) Rdk.kru_ty cls_in (fun V _ => rd.1 false V) hb hs hsb hne hg hgb hgl
 refine enter (vs := [.pointer (some ⟨b, 0, none⟩), sv]) Tryz.func42 rfl Tryz.ntmps42 rfl ?_
 repeat first|(with_reducible first|apply wc_seq|apply wc_region|apply wl_nil|apply qk_thn)|((with_reducible apply ws);exact rfl;exact rfl)
 refine wl_call rfl hr.1 rfl (hr.2.mono ?_)
 rintro en w1 ⟨hc, h⟩
 cases hR : rdV acts d0 xs with
 | some x =>
  rw [hR] at h
  obtain ⟨rfl, h⟩ := h
  refine ⟨_, rfl, ?_⟩
  repeat first|(with_reducible first|apply wl_nil|apply qk_thn|apply wc_ret)|((with_reducible apply ws);exact rfl;exact rfl)
  exact qk_ret1 rfl rfl ⟨hc, rfl, h⟩
 | none =>
  rw [hR] at h
  obtain rfl := h
  refine ⟨_, rfl, ?_⟩
  repeat first|(with_reducible first|apply wl_nil|apply qk_thn|apply wc_ret)|((with_reducible apply ws);exact rfl;exact rfl)
  exact qk_ret1 rfl rfl ⟨hc, rfl⟩
set_option maxHeartbeats 4000000 in
theorem fn_doorT (w : World) (u : TypeId) (x sv : Value) (xs : List UInt8) (hxl : xs.length ≤ 1000) (hs : BytesAt w sv xs) (hg : w.cell? ⟨1, 0, none⟩ = some (.iface u x)) (o : Option Tree) (H : ComesV true m.fields d0 acts xs o) :
  Calls Tryz.prog 14 #[sv] w fun e w' => Below w.heap.size w w' ∧ match o with
   | none => ∃ cs : List Value, e = .returned (.tuple #[.agg cs.toArray, .bool false]) ∧ cs = [.int .i64 0, .slice none 0 0, .bool false, .slice none 0 0, .slice none 0 0]
   | some T => fine T ∧ ∃ cs : List Value, e = .returned (.tuple #[.agg cs.toArray, .bool true]) ∧ Rep (Lo w'.heap.size) w' (treeD T) cs := by
 obtain ⟨sa, sc, hsv⟩ := hs.shape
 refine enter (vs := [sv]) Tryz.func14 rfl Tryz.ntmps14 rfl ?_
 repeat (with_reducible first|apply wc_seq|apply wc_region)
 refine wl_alloc Impl.zv_tree rfl rfl (fun w0 hb0 hg0 hs0 => ?_)
 have hw0 : Below w.heap.size w w0 := below_of hg0 (Nat.le_refl _) (by simp)
 repeat first|(with_reducible first|apply wc_seq|apply wc_region|apply wl_nil|apply qk_thn)|((with_reducible apply ws);exact rfl;exact rfl)
 refine wl_call rfl (by kernel_rfl) rfl ((fn_new w0).mono ?_)
 rintro e w1 ⟨rfl, hw01⟩
 refine ⟨_, rfl, ?_⟩
 have hz01 := hw01.size
 have hw1 := hw0.trans (hw01.mono (by omega))
 refine wl_alloc zv rfl rfl (fun w1a hb1a hg1a hs1a => ?_)
 refine wl_storeBAgg (vs := d0) rfl rfl rfl (by rw [d0l]; exact tz_m) d0_one hb1a (by rw [zl, d0l]) (fun w2 hb2 hg2 hs2' => ?_)
 have hlt := hb2.lt
 have hw12 : Below w1.heap.size w1 w2 := (below_of hg1a (Nat.le_refl _) (by simp)).trans (below_of hg2 (by omega) (by intro q hq; simp at hq; omega))
 have hw2 := hw1.trans (hw12.mono (by omega))
 have hs2 := hs.below hw2
 have hz2 := hw12.size
 repeat first|(with_reducible first|apply wc_seq|apply wc_region|apply wl_nil|apply qk_thn)|((with_reducible apply ws);exact rfl;exact rfl)
 refine wl_appSl tb_bytes tb_bytes rfl rfl rfl hs2 (Own.nil w2 w2.heap.size 5) (Nat.le_refl _) (by simp only [List.length_nil, lim]; omega) (fun d3 w3 ho3 hg3 => ?_)
 have hw23 : Below w2.heap.size w2 w3 := hg3.below (Nat.le_refl _) (by simp [Value.ownBlock])
 have hw3 := hw2.trans (hw23.mono (by omega))
 have hb3 := hb2.below hw23 (by omega)
 have hz3 := hw23.size
 have hgl : 1 < w.heap.size := World.block_lt_of_cell? _ _ hg
 have hg3' : w3.cell? ⟨1, 0, none⟩ = some (.iface u x) := by rw [← hg]; simp only [World.cell?, hw3.block _ hgl]
 rw [List.nil_append] at ho3
 obtain ⟨sb, hsb, hsbx, hsrc⟩ := own_src ho3 (by simp only [srcLim]; omega) (by omega) (by omega)
 have hb03 : Box w3 w.heap.size [.int .i64 0, .slice none 0 0, .bool false, .slice none 0 0, .slice none 0 0] 35 := ((hb0.below hw01 (by omega)).below hw12 (by omega)).below hw23 (by omega)
 refine wl_call rfl (by kernel_rfl) rfl ((fn_readT w3 (.iface u x) d3 w1.heap.size sb xs hb3 hsrc hsb (by omega) hg3' (by omega) (by omega)).mono ?_)
 rintro e w4 ⟨hc4, h4⟩
 have hw34 : Below w1.heap.size w3 w4 := chg_below hc4 (fun j hj h => by rcases h with h | h <;> omega) (by omega)
 have hw4 := hw3.trans (hw34.mono (by omega))
 have hz4 := hw34.size
 have hb04 := hb03.below hw34 (by omega)
 cases o with
 | none =>
  have hR : rdV acts d0 xs = none := H
  rw [hR] at h4
  obtain rfl := h4
  refine ⟨_, rfl, ?_⟩
  refine wl_ifNeErr rfl (by kernel_rfl) rfl ?_
  repeat (with_reducible first|apply wl_nil|apply qk_thn)
  refine wc_yes rfl rfl ?_
  repeat (with_reducible first|apply wc_seq|apply wc_region)
  refine wl_build rfl (cs := [.int .i64 0, .slice none 0 0, .bool false, .slice none 0 0, .slice none 0 0]) (by kernel_rfl) rfl ?_
  refine wl_storeBAgg (vs := [.int .i64 0, .slice none 0 0, .bool false, .slice none 0 0, .slice none 0 0]) rfl rfl rfl Impl.tz_tree rfl hb04 rfl (fun w6 hb6 hg6 hs6 => ?_)
  repeat first|(with_reducible first|apply wl_nil|apply qk_thn|apply wc_ret|apply qk_thn_ret)|((with_reducible apply ws);exact rfl;exact rfl)
  have hw46 : Below w.heap.size w4 w6 := below_of hg6 (by omega) (by intro q hq; simp at hq; omega)
  exact qk_retCell2 (cs := [.int .i64 0, .slice none 0 0, .bool false, .slice none 0 0, .slice none 0 0]) rfl rfl Impl.ta_tree hb6 rfl ⟨hw4.trans hw46, _, rfl, rfl⟩
 | some T0 =>
  obtain ⟨V, rst, r0, ds2, T1, hR, rfl, himp, hT1, hfine, hun⟩ := H
  rw [hR] at h4
  obtain ⟨rfl, cs4, lo4, hlo4, hb4, hr4, hsh4⟩ := h4
  refine ⟨_, rfl, ?_⟩
  refine wl_ifNeNil rfl (by kernel_rfl) rfl ?_
  repeat (with_reducible first|apply wl_nil|apply qk_thn)
  refine wc_no rfl rfl ?_
  repeat (with_reducible first|apply wc_seq|apply wc_region|apply qk_thn|apply wc_skip)
  have hd0 : shDs (litsD d0) = .int .i16 :: shDs (litsD (d0.drop 1)) := by rw [d0_hd]; rfl
  obtain ⟨V', hV0, hV⟩ := cs0_int hr4 (hsh4.trans hd0)
  simp only [Reps] at hr4
  obtain ⟨c1, c2, rfl, hc1, hr4⟩ := hr4
  simp only [Rep] at hc1
  subst hc1
  simp only [List.cons_append, List.nil_append, List.getElem?_cons_zero, Option.some.injEq, Value.int.injEq, true_and] at hV0
  subst hV0
  rw [wrap_i16] at hV
  have hat : CellsAt w4 w1.heap.size (0 + 1) c2 := by
   have := hb4.cells.right
   simpa using this
  have hr4' : Reps (Lo w4.heap.size) w4 ds2 c2 := Reps.mono (fun j hj => ⟨hj.2, rfl⟩) _ _ (himp _ _ _ hr4)
  have htell := tell_top.2 w4.heap.size w4 w1.heap.size 0 c2 ds2 T1 hat hr4' (by omega) (Nat.le_refl _) hT1
  refine wl_call rfl tell_top.1 rfl (htell.mono ?_)
  rintro e w5 ⟨cs5, T, rfl, hr5, hT5, hc5⟩
  obtain rfl := hun T hT5
  refine ⟨_, rfl, ?_⟩
  have hz5 := hc5.size
  have hw45 : Below w4.heap.size w4 w5 := ⟨hc5.os, hc5.tape, hc5.output, hc5.size, fun j hj => hc5.block j hj (fun h => h)⟩
  have hw5 := hw4.trans (hw45.mono (by omega))
  have hb05 := hb04.below hw45 (by omega)
  have hb45 := hb4.below hw45 (by omega)
  obtain ⟨hone, hlen5⟩ := tree_oneG hr5
  refine wl_alloc Impl.zv_tree rfl rfl (fun w6 hb6 hg6 hs6 => ?_)
  refine wl_storeBAgg (vs := cs5) rfl rfl rfl (by rw [hlen5]; exact Impl.tz_tree) hone hb6 (by rw [hlen5]; rfl) (fun w7 hb7 hg7 hs7 => ?_)
  have hw57 : Below w5.heap.size w5 w7 := (below_of hg6 (Nat.le_refl _) (by simp)).trans (below_of hg7 (by omega) (by intro q hq; simp at hq; omega))
  have hz57 := hw57.size
  have hw7 := hw5.trans (hw57.mono (by omega))
  have hb07 := hb05.below hw57 (by omega)
  have hb47 := hb45.below hw57 (by omega)
  repeat first|(with_reducible first|apply wc_seq|apply wc_region|apply wl_nil|apply qk_thn)|((with_reducible apply ws);exact rfl;exact rfl)
  refine wl_loadB (i := 0) rfl to_i16 rfl hb47 (v := .int .i16 V) rfl ?_
  refine wl_conv .i64 rfl ti_i16 ti_i64 rfl (r := V) (by rw [IntKind.wrap_i64]; omega) ?_
  repeat ((with_reducible apply ws);exact rfl;exact rfl)
  obtain ⟨x5, r5, rfl⟩ : ∃ x5 r5, cs5 = x5 :: r5 := by
   cases cs5 with
   | nil => simp at hlen5
   | cons x5 r5 => exact ⟨x5, r5, rfl⟩
  refine wl_storeB (i := 0) rfl rfl to_i64 rfl hb7 rfl (fun w8 hb8 hg8 hs8 => ?_)
  have hw78 : Below w5.heap.size w7 w8 := below_of hg8 (by omega) (by intro q hq; simp at hq; omega)
  have hw8 := hw7.trans (hw78.mono (by omega))
  have hb08 := hb07.below hw78 (by omega)
  have hz78 := hw78.size
  have hr8 := rep_setN V hr5
  obtain ⟨hone8, hlen8⟩ := tree_oneG hr8
  refine wl_nil (qk_thn ?_)
  repeat (with_reducible first|apply wc_seq|apply wc_region)
  refine wl_loadBAgg (cs := (x5 :: r5).set 0 (.int .i64 V)) rfl (by rw [hlen8]; exact Impl.ta_tree) rfl hb8 ?_
  refine wl_storeBAgg (vs := (x5 :: r5).set 0 (.int .i64 V)) rfl rfl rfl (by rw [hlen8]; exact Impl.tz_tree) hone8 hb08 (by rw [hlen8]; rfl) (fun w9 hb9 hg9 hs9 => ?_)
  repeat first|(with_reducible first|apply wl_nil|apply qk_thn|apply wc_ret)|((with_reducible apply ws);exact rfl;exact rfl)
  have hw89 : Below w.heap.size w8 w9 := below_of hg9 (by omega) (by intro q hq; simp at hq; omega)
  have hw59 : Below w.heap.size w5 w9 := ((hw57.trans hw78).mono (by omega)).trans hw89
  refine qk_retCell2 rfl rfl (by rw [hlen8]; exact Impl.ta_tree) hb9 rfl ⟨hw8.trans hw89, fine_setN V hfine, _, rfl, ?_⟩
  refine hr8.up (fun r hr => by have := hr.2; simp only [Lo]; omega) (fun r hr => ?_)
  have hr5' := hr.2
  have hge : w4.heap.size ≤ r := by rcases hr.1 with h | h; exact absurd h (Nat.not_lt_zero _); exact h
  have e1 : w8.heap[r]? = w5.heap[r]? := (hw57.trans hw78).block r hr5'
  rw [← e1]
  exact hg9.block r (by omega) (by simp; omega)
theorem fn_readU (w : World) (ev sv : Value) (b sb : Nat) (xs : List UInt8) (hb : Box w b d0 85) (hs : SrcAt w sb sv xs) (hsb : sb < w.heap.size) (hne : b ≠ sb)
  (hg : w.cell? ⟨1, 0, none⟩ = some ev) (hgb : 1 ≠ b) (hgl : 1 < w.heap.size) :
  Calls Tryz.prog 45 #[.pointer (some ⟨b, 0, none⟩), sv] w fun en w' => Chg (fun j => j = b ∨ w.heap.size ≤ j) w w' ∧ match rdV acts d0 xs with
   | some x => en = .returned .nilIface ∧ ∃ cs' lo, w.heap.size ≤ lo ∧ Box w' b cs' 85 ∧ Reps (Dk sb lo w') w' x.1 cs' ∧ shDs x.1 = shDs (litsD d0)
   | none => en = .returned ev := by
 have hr := readFV_ok (Rdk.kru_ok ev) Rdk.kru_ty cls_in (fun V _ => rd.1 true V) hb hs hsb hne hg hgb hgl
 refine enter (vs := [.pointer (some ⟨b, 0, none⟩), sv]) Tryz.func45 rfl Tryz.ntmps45 rfl ?_
 repeat first|(with_reducible first|apply wc_seq|apply wc_region|apply wl_nil|apply qk_thn)|((with_reducible apply ws);exact rfl;exact rfl)
 refine wl_call rfl hr.1 rfl (hr.2.mono ?_)
 rintro en w1 ⟨hc, h⟩
 cases hR : rdV acts d0 xs with
 | some x =>
  rw [hR] at h
  obtain ⟨rfl, h⟩ := h
  refine ⟨_, rfl, ?_⟩
  repeat first|(with_reducible first|apply wl_nil|apply qk_thn|apply wc_ret)|((with_reducible apply ws);exact rfl;exact rfl)
  exact qk_ret1 rfl rfl ⟨hc, rfl, h⟩
 | none =>
  rw [hR] at h
  obtain rfl := h
  refine ⟨_, rfl, ?_⟩
  repeat first|(with_reducible first|apply wl_nil|apply qk_thn|apply wc_ret)|((with_reducible apply ws);exact rfl;exact rfl)
  exact qk_ret1 rfl rfl ⟨hc, rfl⟩
set_option maxHeartbeats 4000000 in
theorem fn_doorU (w : World) (u : TypeId) (x sv : Value) (xs : List UInt8) (hxl : xs.length ≤ 1000) (hs : BytesAt w sv xs) (hg : w.cell? ⟨1, 0, none⟩ = some (.iface u x)) (o : Option Tree) (H : ComesV true m.fields d0 acts xs o) :
  Calls Tryz.prog 16 #[sv] w fun e w' => Below w.heap.size w w' ∧ match o with
   | none => ∃ cs : List Value, e = .returned (.tuple #[.agg cs.toArray, .bool false]) ∧ cs = [.int .i64 0, .slice none 0 0, .bool false, .slice none 0 0, .slice none 0 0]
   | some T => fine T ∧ ∃ cs : List Value, e = .returned (.tuple #[.agg cs.toArray, .bool true]) ∧ Rep (Lo w'.heap.size) w' (treeD T) cs := by
 obtain ⟨sa, sc, hsv⟩ := hs.shape
 refine enter (vs := [sv]) Tryz.func16 rfl Tryz.ntmps16 rfl ?_
 repeat (with_reducible first|apply wc_seq|apply wc_region)
 refine wl_alloc Impl.zv_tree rfl rfl (fun w0 hb0 hg0 hs0 => ?_)
 have hw0 : Below w.heap.size w w0 := below_of hg0 (Nat.le_refl _) (by simp)
 repeat first|(with_reducible first|apply wc_seq|apply wc_region|apply wl_nil|apply qk_thn)|((with_reducible apply ws);exact rfl;exact rfl)
 refine wl_call rfl (by kernel_rfl) rfl ((fn_new w0).mono ?_)
 rintro e w1 ⟨rfl, hw01⟩
 refine ⟨_, rfl, ?_⟩
 have hz01 := hw01.size
 have hw1 := hw0.trans (hw01.mono (by omega))
 refine wl_alloc zv rfl rfl (fun w1a hb1a hg1a hs1a => ?_)
 refine wl_storeBAgg (vs := d0) rfl rfl rfl (by rw [d0l]; exact tz_m) d0_one hb1a (by rw [zl, d0l]) (fun w2 hb2 hg2 hs2' => ?_)
 have hlt := hb2.lt
 have hw12 : Below w1.heap.size w1 w2 := (below_of hg1a (Nat.le_refl _) (by simp)).trans (below_of hg2 (by omega) (by intro q hq; simp at hq; omega))
 have hw2 := hw1.trans (hw12.mono (by omega))
 have hs2 := hs.below hw2
 have hz2 := hw12.size
 repeat first|(with_reducible first|apply wc_seq|apply wc_region|apply wl_nil|apply qk_thn)|((with_reducible apply ws);exact rfl;exact rfl)
 refine wl_appSl tb_bytes tb_bytes rfl rfl rfl hs2 (Own.nil w2 w2.heap.size 5) (Nat.le_refl _) (by simp only [List.length_nil, lim]; omega) (fun d3 w3 ho3 hg3 => ?_)
 have hw23 : Below w2.heap.size w2 w3 := hg3.below (Nat.le_refl _) (by simp [Value.ownBlock])
 have hw3 := hw2.trans (hw23.mono (by omega))
 have hb3 := hb2.below hw23 (by omega)
 have hz3 := hw23.size
 have hgl : 1 < w.heap.size := World.block_lt_of_cell? _ _ hg
 have hg3' : w3.cell? ⟨1, 0, none⟩ = some (.iface u x) := by rw [← hg]; simp only [World.cell?, hw3.block _ hgl]
 rw [List.nil_append] at ho3
 obtain ⟨sb, hsb, hsbx, hsrc⟩ := own_src ho3 (by simp only [srcLim]; omega) (by omega) (by omega)
 have hb03 : Box w3 w.heap.size [.int .i64 0, .slice none 0 0, .bool false, .slice none 0 0, .slice none 0 0] 35 := ((hb0.below hw01 (by omega)).below hw12 (by omega)).below hw23 (by omega)
 refine wl_call rfl (by kernel_rfl) rfl ((fn_readU w3 (.iface u x) d3 w1.heap.size sb xs hb3 hsrc hsb (by omega) hg3' (by omega) (by omega)).mono ?_)
 rintro e w4 ⟨hc4, h4⟩
 have hw34 : Below w1.heap.size w3 w4 := chg_below hc4 (fun j hj h => by rcases h with h | h <;> omega) (by omega)
 have hw4 := hw3.trans (hw34.mono (by omega))
 have hz4 := hw34.size
 have hb04 := hb03.below hw34 (by omega)
 cases o with
 | none =>
  have hR : rdV acts d0 xs = none := H
  rw [hR] at h4
  obtain rfl := h4
  refine ⟨_, rfl, ?_⟩
  refine wl_ifNeErr rfl (by kernel_rfl) rfl ?_
  repeat (with_reducible first|apply wl_nil|apply qk_thn)
  refine wc_yes rfl rfl ?_
  repeat (with_reducible first|apply wc_seq|apply wc_region)
  refine wl_build rfl (cs := [.int .i64 0, .slice none 0 0, .bool false, .slice none 0 0, .slice none 0 0]) (by kernel_rfl) rfl ?_
  refine wl_storeBAgg (vs := [.int .i64 0, .slice none 0 0, .bool false, .slice none 0 0, .slice none 0 0]) rfl rfl rfl Impl.tz_tree rfl hb04 rfl (fun w6 hb6 hg6 hs6 => ?_)
  repeat first|(with_reducible first|apply wl_nil|apply qk_thn|apply wc_ret|apply qk_thn_ret)|((with_reducible apply ws);exact rfl;exact rfl)
  have hw46 : Below w.heap.size w4 w6 := below_of hg6 (by omega) (by intro q hq; simp at hq; omega)
  exact qk_retCell2 (cs := [.int .i64 0, .slice none 0 0, .bool false, .slice none 0 0, .slice none 0 0]) rfl rfl Impl.ta_tree hb6 rfl ⟨hw4.trans hw46, _, rfl, rfl⟩
 | some T0 =>
  obtain ⟨V, rst, r0, ds2, T1, hR, rfl, himp, hT1, hfine, hun⟩ := H
  rw [hR] at h4
  obtain ⟨rfl, cs4, lo4, hlo4, hb4, hr4, hsh4⟩ := h4
  refine ⟨_, rfl, ?_⟩
  refine wl_ifNeNil rfl (by kernel_rfl) rfl ?_
  repeat (with_reducible first|apply wl_nil|apply qk_thn)
  refine wc_no rfl rfl ?_
  repeat (with_reducible first|apply wc_seq|apply wc_region|apply qk_thn|apply wc_skip)
  have hd0 : shDs (litsD d0) = .int .i16 :: shDs (litsD (d0.drop 1)) := by rw [d0_hd]; rfl
  obtain ⟨V', hV0, hV⟩ := cs0_int hr4 (hsh4.trans hd0)
  simp only [Reps] at hr4
  obtain ⟨c1, c2, rfl, hc1, hr4⟩ := hr4
  simp only [Rep] at hc1
  subst hc1
  simp only [List.cons_append, List.nil_append, List.getElem?_cons_zero, Option.some.injEq, Value.int.injEq, true_and] at hV0
  subst hV0
  rw [wrap_i16] at hV
  have hat : CellsAt w4 w1.heap.size (0 + 1) c2 := by
   have := hb4.cells.right
   simpa using this
  have hr4' : Reps (Lo w4.heap.size) w4 ds2 c2 := Reps.mono (fun j hj => ⟨hj.2, rfl⟩) _ _ (himp _ _ _ hr4)
  have htell := tell_top.2 w4.heap.size w4 w1.heap.size 0 c2 ds2 T1 hat hr4' (by omega) (Nat.le_refl _) hT1
  refine wl_call rfl tell_top.1 rfl (htell.mono ?_)
  rintro e w5 ⟨cs5, T, rfl, hr5, hT5, hc5⟩
  obtain rfl := hun T hT5
  refine ⟨_, rfl, ?_⟩
  have hz5 := hc5.size
  have hw45 : Below w4.heap.size w4 w5 := ⟨hc5.os, hc5.tape, hc5.output, hc5.size, fun j hj => hc5.block j hj (fun h => h)⟩
  have hw5 := hw4.trans (hw45.mono (by omega))
  have hb05 := hb04.below hw45 (by omega)
  have hb45 := hb4.below hw45 (by omega)
  obtain ⟨hone, hlen5⟩ := tree_oneG hr5
  refine wl_alloc Impl.zv_tree rfl rfl (fun w6 hb6 hg6 hs6 => ?_)
  refine wl_storeBAgg (vs := cs5) rfl rfl rfl (by rw [hlen5]; exact Impl.tz_tree) hone hb6 (by rw [hlen5]; rfl) (fun w7 hb7 hg7 hs7 => ?_)
  have hw57 : Below w5.heap.size w5 w7 := (below_of hg6 (Nat.le_refl _) (by simp)).trans (below_of hg7 (by omega) (by intro q hq; simp at hq; omega))
  have hz57 := hw57.size
  have hw7 := hw5.trans (hw57.mono (by omega))
  have hb07 := hb05.below hw57 (by omega)
  have hb47 := hb45.below hw57 (by omega)
  repeat first|(with_reducible first|apply wc_seq|apply wc_region|apply wl_nil|apply qk_thn)|((with_reducible apply ws);exact rfl;exact rfl)
  refine wl_loadB (i := 0) rfl to_i16 rfl hb47 (v := .int .i16 V) rfl ?_
  refine wl_conv .i64 rfl ti_i16 ti_i64 rfl (r := V) (by rw [IntKind.wrap_i64]; omega) ?_
  repeat ((with_reducible apply ws);exact rfl;exact rfl)
  obtain ⟨x5, r5, rfl⟩ : ∃ x5 r5, cs5 = x5 :: r5 := by
   cases cs5 with
   | nil => simp at hlen5
   | cons x5 r5 => exact ⟨x5, r5, rfl⟩
  refine wl_storeB (i := 0) rfl rfl to_i64 rfl hb7 rfl (fun w8 hb8 hg8 hs8 => ?_)
  have hw78 : Below w5.heap.size w7 w8 := below_of hg8 (by omega) (by intro q hq; simp at hq; omega)
  have hw8 := hw7.trans (hw78.mono (by omega))
  have hb08 := hb07.below hw78 (by omega)
  have hz78 := hw78.size
  have hr8 := rep_setN V hr5
  obtain ⟨hone8, hlen8⟩ := tree_oneG hr8
  refine wl_nil (qk_thn ?_)
  repeat (with_reducible first|apply wc_seq|apply wc_region)
  refine wl_loadBAgg (cs := (x5 :: r5).set 0 (.int .i64 V)) rfl (by rw [hlen8]; exact Impl.ta_tree) rfl hb8 ?_
  refine wl_storeBAgg (vs := (x5 :: r5).set 0 (.int .i64 V)) rfl rfl rfl (by rw [hlen8]; exact Impl.tz_tree) hone8 hb08 (by rw [hlen8]; rfl) (fun w9 hb9 hg9 hs9 => ?_)
  repeat first|(with_reducible first|apply wl_nil|apply qk_thn|apply wc_ret)|((with_reducible apply ws);exact rfl;exact rfl)
  have hw89 : Below w.heap.size w8 w9 := below_of hg9 (by omega) (by intro q hq; simp at hq; omega)
  have hw59 : Below w.heap.size w5 w9 := ((hw57.trans hw78).mono (by omega)).trans hw89
  refine qk_retCell2 rfl rfl (by rw [hlen8]; exact Impl.ta_tree) hb9 rfl ⟨hw8.trans hw89, fine_setN V hfine, _, rfl, ?_⟩
  refine hr8.up (fun r hr => by have := hr.2; simp only [Lo]; omega) (fun r hr => ?_)
  have hr5' := hr.2
  have hge : w4.heap.size ≤ r := by rcases hr.1 with h | h; exact absurd h (Nat.not_lt_zero _); exact h
  have e1 : w8.heap[r]? = w5.heap[r]? := (hw57.trans hw78).block r hr5'
  rw [← e1]
  exact hg9.block r (by omega) (by simp; omega)
end
end Go.Proofs.YtlmnaffhadeolaaGreatDoor.BGroupMetadataValue

namespace Go.Proofs.YtlmnaffhadeolaaGreatDoor.BGroupMetadataValue
open Go Go.RowKit
section
set_option maxRecDepth 100000
set_option maxHeartbeats 4000000 in
theorem fn_end (o0 : Option Tree) (T00 : Tree) (w : World) (u : TypeId) (x : Value) (sa : Option Addr) (sc : Nat) (xs : List UInt8) (hs : BytesAt w (.slice sa xs.length sc) xs) (hg : w.cell? ⟨1, 0, none⟩ = some (.iface u x)) (Ho : ComesV true m.fields d0 acts xs o0) (H00 : ComesV true m.fields d0 acts xs0 (some T00)) (hxl : xs.length ≤ 1000) :
  Fn 4 [.slice sa xs.length sc] w fun v _ => v = .bool true := by
 have hgk : ∀ w' : World, Below w.heap.size w w' → w'.cell? ⟨1, 0, none⟩ = some (.iface u x) := fun w' hb => by
  rw [← hg]; simp only [World.cell?, hb.block _ (World.block_lt_of_cell? _ _ hg)]
 have hx0 : (be 2 0 ++ write m 0 Tree.none) = xs0 := rfl
 refine enter Tryz.func4 rfl Tryz.ntmps4 rfl ?_
 repeat first|(with_reducible first|apply wc_seq|apply wc_region|apply wl_nil|apply qk_thn)|((with_reducible apply ws);exact rfl;exact rfl)
 refine wc_no rfl (by simp; omega) ?_
 repeat first|(with_reducible first|apply wc_seq|apply wc_region|apply wl_nil|apply qk_thn|apply wc_skip)|((with_reducible apply ws);exact rfl;exact rfl)
 refine wc_no rfl (by simp; omega) ?_
 repeat (with_reducible first|apply wc_seq|apply wc_region|apply qk_thn|apply wc_skip)
 refine wl_call rfl (by kernel_rfl) rfl ((fn_table w).mono ?_)
 rintro e w3 ⟨v3, rfl, hwA3, fv, rfl, hsq⟩
 refine ⟨_, rfl, ?_⟩
 refine wl_build rfl (cs := [.int .i64 0, .slice none 0 0, .bool false, .slice none 0 0, .slice none 0 0]) (by kernel_rfl) rfl ?_
 refine wl_call rfl (by kernel_rfl) rfl ((fn_kept m m_ok 0 Tree.none w3.heap.size w3 _ _ Tree.ok_none (Nat.le_refl _) hsq (tree_none _ _) (by rw [hx0, xs0_eq]; simp only [lim, List.length_cons, List.length_nil]; omega)).mono ?_)
 rintro e w4 ⟨v4, rfl, hw34, ho4⟩
 refine ⟨_, rfl, ?_⟩
 have hwA4 := hwA3.trans (hw34.mono hwA3.size)
 have hbs4 : BytesAt w4 v4 xs0 := ho4.bytes
 refine wl_call rfl (by kernel_rfl) rfl ((fn_doorT w4 u x v4 xs0 (by rw [xs0_eq]; decide) hbs4 (hgk w4 hwA4) (some T00) H00).mono ?_)
 rintro e w5 h5
 obtain ⟨hw5, _, cs5, rfl, hr5⟩ := h5
 obtain ⟨hone5, hlen5⟩ := tree_one hr5
 refine ⟨_, rfl, ?_⟩
 have hz5 := hw5.size
 have hwA5 := hwA4.trans (hw5.mono hwA4.size)
 repeat ((with_reducible apply ws);exact rfl;exact rfl)
 refine wl_extract rfl rfl rfl ?_
 refine wl_extract rfl rfl rfl ?_
 refine wl_alloc Impl.zv_tree rfl rfl (fun w6 hb6 hg6 hs6 => ?_)
 refine wl_storeBAgg (vs := cs5) rfl rfl rfl (by rw [hlen5]; exact Impl.tz_tree) hone5 hb6 (by rw [hlen5]; rfl) (fun w7 hb7 hg7 hs7 => ?_)
 have hwB7 : Below w5.heap.size w5 w7 := (below_of hg6 (Nat.le_refl _) (by simp)).trans (below_of hg7 (by omega) (by intro q hq; simp at hq; omega))
 have hz7 := hwB7.size
 have hwA7 := hwA5.trans (hwB7.mono hwA5.size)
 repeat first|(with_reducible first|apply wc_seq|apply wc_region|apply wl_nil|apply qk_thn)|((with_reducible apply ws);exact rfl;exact rfl)
 cases o0 with
 | none =>
  refine wl_call rfl (by kernel_rfl) rfl ((fn_doorT w7 u x (.slice sa xs.length sc) xs (by omega) (hs.below hwA7) (hgk w7 hwA7) none Ho).mono ?_)
  rintro e w8 h8
  obtain ⟨hw8, cs8, rfl, hcs8⟩ := h8
  have hone8 : (cs8.all fun v => v.oneCell') = true := by rw [hcs8]; rfl
  have hlen8 : cs8.length = 5 := by rw [hcs8]; rfl
  refine ⟨_, rfl, ?_⟩
  have hz8 := hw8.size
  have hwA8 := hwA7.trans (hw8.mono hwA7.size)
  repeat ((with_reducible apply ws);exact rfl;exact rfl)
  refine wl_extract rfl rfl rfl ?_
  refine wl_extract rfl rfl rfl ?_
  refine wl_alloc Impl.zv_tree rfl rfl (fun w9 hb9 hg9 hs9 => ?_)
  refine wl_storeBAgg (vs := cs8) rfl rfl rfl (by rw [hlen8]; exact Impl.tz_tree) hone8 hb9 (by rw [hlen8]; rfl) (fun w10 hb10 hg10 hs10 => ?_)
  have hwB10 : Below w8.heap.size w8 w10 := (below_of hg9 (Nat.le_refl _) (by simp)).trans (below_of hg10 (by omega) (by intro q hq; simp at hq; omega))
  have hz10 := hwB10.size
  have hwA10 := hwA8.trans (hwB10.mono hwA8.size)
  repeat first|(with_reducible first|apply wc_seq|apply wc_region|apply wl_nil|apply qk_thn)|((with_reducible apply ws);exact rfl;exact rfl)
  refine wl_call rfl (by kernel_rfl) rfl ((fn_doorU w10 u x (.slice sa xs.length sc) xs (by omega) (hs.below hwA10) (hgk w10 hwA10) none Ho).mono ?_)
  rintro e w11 h11
  obtain ⟨hw11, cs11, rfl, hcs11⟩ := h11
  have hone11 : (cs11.all fun v => v.oneCell') = true := by rw [hcs11]; rfl
  have hlen11 : cs11.length = 5 := by rw [hcs11]; rfl
  refine ⟨_, rfl, ?_⟩
  have hz11 := hw11.size
  have hwA11 := hwA10.trans (hw11.mono hwA10.size)
  repeat ((with_reducible apply ws);exact rfl;exact rfl)
  refine wl_extract rfl rfl rfl ?_
  refine wl_extract rfl rfl rfl ?_
  refine wl_alloc Impl.zv_tree rfl rfl (fun w12 hb12 hg12 hs12 => ?_)
  refine wl_storeBAgg (vs := cs11) rfl rfl rfl (by rw [hlen11]; exact Impl.tz_tree) hone11 hb12 (by rw [hlen11]; rfl) (fun w13 hb13 hg13 hs13 => ?_)
  have hwB13 : Below w11.heap.size w11 w13 := (below_of hg12 (Nat.le_refl _) (by simp)).trans (below_of hg13 (by omega) (by intro q hq; simp at hq; omega))
  have hz13 := hwB13.size
  have hwA13 := hwA11.trans (hwB13.mono hwA11.size)
  repeat first|(with_reducible first|apply wc_seq|apply wl_nil|apply qk_thn)|((with_reducible apply ws);exact rfl;exact rfl)
  refine wc_par [(0, .bool true), (1, .bool true), (2, .bool false), (3, .bool false), (4, .bool true), (5, .bool true), (6, .bool true), (7, .bool false), (8, .bool true), (9, .bool true), (10, undef), (11, undef), (12, undef), (13, undef), (14, undef), (15, .bool true), (16, .bool true)] [17]
   (fun vals w' => Below w13.heap.size w13 w' ∧ match vals with
    | [] => True
    | v :: _ => v = .bool true)
   mixed rfl rfl rfl rfl rfl (by show ([0,1,2,3,4,5,6,7,8,9,10,11,12,13,14,15,16] : List Nat).Nodup; decide) rfl rfl (by decide) rfl rfl rfl rfl ⟨(Below.refl _ w13).drew, trivial⟩ ?_ ⟨?_, trivial⟩ ?_
  ·intro p hp vals w' hC a k
   simp only [List.mem_cons, List.not_mem_nil, or_false] at hp
   rcases hp with rfl | rfl | rfl | rfl | rfl | rfl | rfl | rfl | rfl | rfl | rfl | rfl | rfl | rfl | rfl | rfl | rfl
   ·exact gv rfl rfl (rn_move k rfl)
   ·exact gv rfl rfl (rn_move k rfl)
   ·exact gv_yes rfl rfl rfl k rfl rfl (rn_move k rfl)
   ·exact gv_yes rfl rfl rfl k rfl rfl (rn_move k rfl)
   ·exact gv_yes rfl rfl rfl k rfl rfl ((rn_eqlB k rfl rfl Tryz.underlying4).trans rfl)
   ·exact gv rfl rfl (rn_pick k rfl rfl)
   ·exact gv rfl rfl (rn_move k rfl)
   ·exact gv_yes rfl rfl rfl k rfl rfl (rn_move k rfl)
   ·exact gv_yes rfl rfl rfl k rfl rfl ((rn_not k rfl).trans rfl)
   ·exact gv_yes rfl rfl rfl k rfl rfl (rn_move k rfl)
   iterate 5 (exact gv_no rfl rfl rfl k rfl rfl)
   ·exact gv_yes rfl rfl rfl k rfl rfl (rn_pick k rfl rfl)
   ·exact gv rfl rfl (rn_pick k rfl rfl)
  ·rintro vals w' hvl ⟨hb', _⟩ a k
   match vals, hvl with
   | [], _ => exact ⟨_, rfl, does_assign k rfl ⟨hb', rfl⟩⟩
  ·rintro vals w' hvl ⟨hb', hC⟩
   match vals, hvl with
   | [v17], _ =>
    simp only [] at hC
    subst hC
    refine qk_thn ?_
    repeat (with_reducible apply wc_ret)
    exact qk_ret1 rfl rfl ⟨_, rfl, hwA13.trans (hb'.mono hwA13.size), rfl⟩
 | some T0 =>
  refine wl_call rfl (by kernel_rfl) rfl ((fn_doorT w7 u x (.slice sa xs.length sc) xs (by omega) (hs.below hwA7) (hgk w7 hwA7) (some T0) Ho).mono ?_)
  rintro e w8 h8
  obtain ⟨hw8, hfine, cs8, rfl, hr8⟩ := h8
  obtain ⟨hone8, hlen8⟩ := tree_one hr8
  refine ⟨_, rfl, ?_⟩
  have hz8 := hw8.size
  have hwA8 := hwA7.trans (hw8.mono hwA7.size)
  repeat ((with_reducible apply ws);exact rfl;exact rfl)
  refine wl_extract rfl rfl rfl ?_
  refine wl_extract rfl rfl rfl ?_
  refine wl_alloc Impl.zv_tree rfl rfl (fun w9 hb9 hg9 hs9 => ?_)
  refine wl_storeBAgg (vs := cs8) rfl rfl rfl (by rw [hlen8]; exact Impl.tz_tree) hone8 hb9 (by rw [hlen8]; rfl) (fun w10 hb10 hg10 hs10 => ?_)
  have hwB10 : Below w8.heap.size w8 w10 := (below_of hg9 (Nat.le_refl _) (by simp)).trans (below_of hg10 (by omega) (by intro q hq; simp at hq; omega))
  have hz10 := hwB10.size
  have hwA10 := hwA8.trans (hwB10.mono hwA8.size)
  repeat first|(with_reducible first|apply wc_seq|apply wc_region|apply wl_nil|apply qk_thn)|((with_reducible apply ws);exact rfl;exact rfl)
  refine wl_call rfl (by kernel_rfl) rfl ((fn_doorU w10 u x (.slice sa xs.length sc) xs (by omega) (hs.below hwA10) (hgk w10 hwA10) (some T0) Ho).mono ?_)
  rintro e w11 h11
  obtain ⟨hw11, _, cs11, rfl, hr11⟩ := h11
  obtain ⟨hone11, hlen11⟩ := tree_one hr11
  refine ⟨_, rfl, ?_⟩
  have hz11 := hw11.size
  have hwA11 := hwA10.trans (hw11.mono hwA10.size)
  repeat ((with_reducible apply ws);exact rfl;exact rfl)
  refine wl_extract rfl rfl rfl ?_
  refine wl_extract rfl rfl rfl ?_
  refine wl_alloc Impl.zv_tree rfl rfl (fun w12 hb12 hg12 hs12 => ?_)
  refine wl_storeBAgg (vs := cs11) rfl rfl rfl (by rw [hlen11]; exact Impl.tz_tree) hone11 hb12 (by rw [hlen11]; rfl) (fun w13 hb13 hg13 hs13 => ?_)
  have hwB13 : Below w11.heap.size w11 w13 := (below_of hg12 (Nat.le_refl _) (by simp)).trans (below_of hg13 (by omega) (by intro q hq; simp at hq; omega))
  have hz13 := hwB13.size
  have hwA13 := hwA11.trans (hwB13.mono hwA11.size)
  have hsm := fine_small hfine
  have hw1013 : Below w10.heap.size w10 w13 := hw11.trans (hwB13.mono hz11)
  have hw813 : Below w8.heap.size w8 w13 := hwB10.trans (hw1013.mono hz10)
  have hr8' : Rep (Lo w13.heap.size) w13 (treeD T0) cs8 := Rep.below hr8 hw813 hw813.size
  have hr11' : Rep (Lo w13.heap.size) w13 (treeD T0) cs11 := Rep.below hr11 hwB13 hwB13.size
  have hb1013 := hb10.below hw1013 hb10.lt
  repeat first|(with_reducible first|apply wc_seq|apply wl_nil|apply qk_thn)|((with_reducible apply ws);exact rfl;exact rfl)
  refine wc_par [(0, .bool true), (1, .bool true), (2, .bool true), (3, .bool true), (4, .bool true), (5, .bool true), (6, .bool true), (7, .bool true), (8, .bool false), (9, .bool false), (10, .agg cs8.toArray), (12, .agg cs11.toArray)] [17, 16, 15, 14, 13, 11]
   (fun vals w' => Below w13.heap.size w13 w' ∧ match vals with
    | [] => True
    | [v11] => ∃ cs : List Value, v11 = .agg cs.toArray ∧ Rep (In w13.heap.size w13.heap.size w') w' (treeD T0) cs
    | [v13, v11] => (∃ cs : List Value, v13 = .agg cs.toArray ∧ Rep (In w13.heap.size w13.heap.size w') w' (treeD T0) cs) ∧ ∃ cs : List Value, v11 = .agg cs.toArray ∧ Rep (In w13.heap.size w13.heap.size w') w' (treeD T0) cs
    | v :: _ => v = .bool true)
   mixed rfl rfl rfl rfl rfl (by show ([0,1,2,3,4,5,6,7,8,9,10,12] : List Nat).Nodup; decide) rfl rfl (by decide) rfl rfl rfl rfl ⟨(Below.refl _ w13).drew, trivial⟩ ?_ ⟨?_, ?_, ?_, ?_, ?_, ?_, trivial⟩ ?_
  ·intro p hp vals w' hC a k
   simp only [List.mem_cons, List.not_mem_nil, or_false] at hp
   rcases hp with rfl | rfl | rfl | rfl | rfl | rfl | rfl | rfl | rfl | rfl | rfl | rfl
   ·exact gv rfl rfl (rn_move k rfl)
   ·exact gv rfl rfl (rn_move k rfl)
   ·exact gv_yes rfl rfl rfl k rfl rfl (rn_move k rfl)
   ·exact gv_yes rfl rfl rfl k rfl rfl (rn_move k rfl)
   ·exact gv_yes rfl rfl rfl k rfl rfl ((rn_eqlB k rfl rfl Tryz.underlying4).trans rfl)
   ·exact gv rfl rfl (rn_pick k rfl rfl)
   ·exact gv rfl rfl (rn_move k rfl)
   ·exact gv_yes rfl rfl rfl k rfl rfl (rn_move k rfl)
   ·exact gv_yes rfl rfl rfl k rfl rfl ((rn_not k rfl).trans rfl)
   ·exact gv_yes rfl rfl rfl k rfl rfl (rn_move k rfl)
   ·exact gv_yes rfl rfl rfl k rfl rfl (rn_loadBAgg k rfl (by rw [hlen8]; exact Impl.ta_tree) (hb1013.below hC.1 hb1013.lt))
   ·exact gv_yes rfl rfl rfl k rfl rfl (rn_loadBAgg k rfl (by rw [hlen11]; exact Impl.ta_tree) (hb13.below hC.1 hb13.lt))
  ·rintro vals w' hvl ⟨hb', hC⟩ a k
   match vals, hvl with
   | [v16, v15, v14, v13, v11], _ => exact ⟨_, rfl, does_assign k rfl ⟨hb', hC⟩⟩
  ·rintro vals w' hvl ⟨hb', hC⟩ a k
   match vals, hvl with
   | [v15, v14, v13, v11], _ =>
    simp only [] at hC
    subst hC
    exact ⟨_, rfl, does_pick (b := true) (v := .bool true) k rfl rfl ⟨hb', rfl⟩⟩
  ·rintro vals w' hvl ⟨hb', hC⟩ a k
   match vals, hvl with
   | [v14, v13, v11], _ =>
    simp only [] at hC
    subst hC
    exact ⟨_, rfl, does_pick (b := false) (v := .bool true) k rfl rfl ⟨hb', rfl⟩⟩
  ·rintro vals w' hvl ⟨hb', hC⟩ a k
   match vals, hvl with
   | [v13, v11], _ =>
    obtain ⟨⟨ca, rfl, ha⟩, cb, rfl, hb⟩ := hC
    refine ⟨_, rfl, does_call k rfl (by kernel_rfl) ((Sam.sam_ok T0 w'.heap.size w' _ _ hfine (Nat.le_refl _) (hb.up (fun r hr => hr.2) (fun _ _ => rfl)) (ha.up (fun r hr => hr.2) (fun _ _ => rfl))).mono ?_)⟩
    rintro e w'' ⟨v, rfl, hb'', rfl⟩
    exact ⟨_, rfl, hb'.trans (hb''.mono hb'.size), rfl⟩
  ·rintro vals w' hvl ⟨hb', hC⟩ a k
   match vals, hvl with
   | [v11], _ =>
    obtain ⟨ca, rfl, ha⟩ := hC
    have hz' := hb'.size
    refine ⟨_, rfl, does_call k rfl (by kernel_rfl) ((Got.got_ok T0 w13.heap.size w' _ hsm hz' (Rep.below hr11' hb' (Nat.le_refl _))).mono ?_)⟩
    rintro e w'' ⟨v, rfl, hb'', cs, rfl, hr⟩
    exact ⟨_, rfl, hb'.trans (hb''.mono hz'), ⟨cs, rfl, hr.up (fun r hr => ⟨hr.1.imp (fun h => h) (fun h => by omega), hr.2⟩) (fun _ _ => rfl)⟩, ca, rfl, ha.up (fun r hr => ⟨hr.1, Nat.lt_of_lt_of_le hr.2 hb''.size⟩) (fun r hr => hb''.block r hr.2)⟩
  ·rintro vals w' hvl ⟨hb', hC⟩ a k
   match vals, hvl with
   | [], _ =>
    have hz' := hb'.size
    refine ⟨_, rfl, does_call k rfl (by kernel_rfl) ((Got.got_ok T0 w13.heap.size w' _ hsm hz' (Rep.below hr8' hb' (Nat.le_refl _))).mono ?_)⟩
    rintro e w'' ⟨v, rfl, hb'', cs, rfl, hr⟩
    exact ⟨_, rfl, hb'.trans (hb''.mono hz'), cs, rfl, hr.up (fun r hr => ⟨hr.1.imp (fun h => h) (fun h => by omega), hr.2⟩) (fun _ _ => rfl)⟩
  ·rintro vals w' hvl ⟨hb', hC⟩
   match vals, hvl with
   | [v17, v16, v15, v14, v13, v11], _ =>
    simp only [] at hC
    subst hC
    refine qk_thn ?_
    repeat (with_reducible apply wc_ret)
    exact qk_ret1 rfl rfl ⟨_, rfl, hwA13.trans (hb'.mono hwA13.size), rfl⟩
set_option maxHeartbeats 4000000 in
theorem fn_law (w : World) (u : TypeId) (x : Value) (sa : Option Addr) (sc : Nat) (xs : List UInt8) (hs : BytesAt w (.slice sa xs.length sc) xs) (hg : w.cell? ⟨1, 0, none⟩ = some (.iface u x)) :
  Fn 4 [.slice sa xs.length sc] w fun v _ => v = .bool true := by
 by_cases hxl : xs.length ≤ 1000
 ·obtain ⟨o, Ho⟩ := rd.2 xs hxl
  obtain ⟨T00, H00⟩ := can
  exact fn_end o T00 w u x sa sc xs hs hg Ho H00 hxl
 ·refine enter Tryz.func4 rfl Tryz.ntmps4 rfl ?_
  repeat first|(with_reducible first|apply wc_seq|apply wc_region|apply wl_nil|apply qk_thn)|((with_reducible apply ws);exact rfl;exact rfl)
  by_cases hbig : 2147483647 < xs.length
  ·refine wc_yes rfl (by simp; omega) ?_
   repeat first|(with_reducible first|apply wc_seq|apply wc_region|apply wl_nil|apply qk_thn|apply wc_ret|apply qk_thn_ret)|((with_reducible apply ws);exact rfl;exact rfl)
   exact qk_ret1 rfl rfl ⟨_, rfl, Below.refl _ _, rfl⟩
  refine wc_no rfl (by simp; omega) ?_
  repeat first|(with_reducible first|apply wc_seq|apply wc_region|apply wl_nil|apply qk_thn|apply wc_skip)|((with_reducible apply ws);exact rfl;exact rfl)
  refine wc_yes rfl (by simp; omega) ?_
  repeat first|(with_reducible first|apply wc_seq|apply wc_region|apply wl_nil|apply qk_thn|apply wc_ret|apply qk_thn_ret)|((with_reducible apply ws);exact rfl;exact rfl)
  exact qk_ret1 rfl rfl ⟨_, rfl, Below.refl _ _, rfl⟩
end
end Go.Proofs.YtlmnaffhadeolaaGreatDoor.BGroupMetadataValue

namespace Go.Proofs.YtlmnaffhadeolaaGreatDoor
open Go Go.RowKit Go.ChangeShapes Go.WideShapes Go.ChangeAt
theorem row_at {W : World} {a : Addr} {sz len : Nat} {f : Nat → List Value} (hsz : 0 < sz) (hlen : 0 < len)
  (hf : ∀ i, i < len → (f i).length = sz ∧ ∀ j v, (f i)[j]? = some v → W.cell? ((a.add (i * sz)).add j) = some v) :
  ∃ b off, a = ⟨b, off, none⟩ ∧ b < W.heap.size ∧ CellsAt W b off ((List.range len).flatMap f) := by
 have h0 := hf 0 hlen
 obtain ⟨b, off, spot⟩ := a
 have hx : ∃ v, (f 0)[0]? = some v := by
  cases hv : (f 0)[0]? with
  | none => rw [List.getElem?_eq_none_iff] at hv; omega
  | some v => exact ⟨v, rfl⟩
 obtain ⟨v0, hv0⟩ := hx
 have hc0 := h0.2 0 v0 hv0
 have hspot : spot = none := by simpa [Addr.add] using World.cell?_spot hc0
 subst hspot
 simp only [Nat.zero_mul] at hc0
 have hadd : ∀ n m, (Addr.add (Addr.add ⟨b, off, none⟩ n) m) = ⟨b, off + n + m, none⟩ := fun n m => by rw [add_plain ⟨b, off, none⟩ n rfl]; rw [add_plain _ _ rfl]
 rw [hadd] at hc0
 have hobj : ∃ arr e fz, W.heap[b]? = some (.cells arr e fz) := by
  unfold World.cell? at hc0
  split at hc0
  ·rename_i c e fz hh; exact ⟨c, e, fz, hh⟩
  ·cases hc0
 obtain ⟨arr, e, fz, hh⟩ := hobj
 have hall : ∀ i j v, i < len → (f i)[j]? = some v → arr[off + i * sz + j]? = some v := by
  intro i j v hi hv
  have := (hf i hi).2 j v hv
  rw [hadd] at this
  simpa [World.cell?, hh] using this
 have hflat : ∀ n, n ≤ len → ((List.range n).flatMap f).length = n * sz ∧ ∀ q v, ((List.range n).flatMap f)[q]? = some v → arr[off + q]? = some v := by
  intro n
  induction n with
  | zero => intro _; simp
  | succ n ih =>
   intro hn
   obtain ⟨hl, hq⟩ := ih (by omega)
   rw [List.range_succ, List.flatMap_append]
   simp only [List.flatMap_cons, List.flatMap_nil, List.append_nil]
   refine ⟨by rw [List.length_append, hl, (hf n (by omega)).1, Nat.succ_mul], fun q v hv => ?_⟩
   by_cases hlt : q < n * sz
   ·rw [List.getElem?_append_left (by omega)] at hv; exact hq q v hv
   ·rw [List.getElem?_append_right (by omega), hl] at hv
    have := hall n (q - n * sz) v (by omega) hv
    rwa [show off + n * sz + (q - n * sz) = off + q from by omega] at this
 obtain ⟨hl, hq⟩ := hflat len (Nat.le_refl _)
 refine ⟨b, off, rfl, (Array.getElem?_eq_some_iff.1 hh).1, arr, e, fz, hh, ?_, hq⟩
 have hpos : 0 < len * sz := Nat.mul_pos hlen hsz
 have hlast : ∃ v, ((List.range len).flatMap f)[len * sz - 1]? = some v := by
  cases hv : ((List.range len).flatMap f)[len * sz - 1]? with
  | none => rw [List.getElem?_eq_none_iff] at hv; omega
  | some v => exact ⟨v, rfl⟩
 obtain ⟨v, hv⟩ := hlast
 have := (Array.getElem?_eq_some_iff.1 (hq _ v hv)).1
 rw [hl]; omega
theorem sum_le : ∀ (a b : List Nat), a.length = b.length → (∀ i (h : i < a.length) (h' : i < b.length), a[i] ≤ b[i]) → a.sum ≤ b.sum
 | [], b, _, _ => by simp
 | x :: a, [], h, _ => by simp at h
 | x :: a, y :: b, h, hall => by
  have h0 := hall 0 (by simp) (by simp)
  have h1 := sum_le a b (by simpa using h) (fun i hi hi' => by have := hall (i + 1) (by simpa using hi) (by simpa using hi'); simpa using this)
  simp only [List.getElem_cons_zero] at h0
  simp only [List.sum_cons]; omega
section
variable {H : Type} {enc : TypeId × Value → H} {P : Program} {W : World} {base : Nat} {spare : Nat → Bool} {held : Bool}
theorem open_sq {α : Type} {t e sz : Nat} (ht : P.underlying t = some (.slice e)) (hc : P.cellsOf e = sz) (hsz : 0 < sz) (g : α → D) (φ : α → Prop) (f0 : α → Nat) (bk : DataW H → Nat) (hnil : 1 ≤ bk .nil) (hsl : ∀ es sp : List (DataW H), (es.map bk).sum + 1 ≤ bk (.slice es sp)) {fuel : Nat} {cs : List Value} {x : DataW H × List MemPlace}
  (h : DataW.trod enc P W base spare held fuel t cs = some x)
  (hel : ∀ n cs' x', n < fuel → DataW.trod enc P W base spare held n e cs' = some x' → ∃ y : α, Rep (Lo W.heap.size) W (g y) cs' ∧ φ y ∧ f0 y ≤ bk x'.1) :
  ∃ (l : List α) (v : Value), cs = [v] ∧ l.length ≤ maxLen ∧ Sq W.heap.size W v (l.map g) ∧ (∀ y ∈ l, φ y) ∧ (l.map f0).sum + 1 ≤ bk x.1 := by
 rcases DataW.trod_slice ht h with ⟨rfl, rfl⟩ | ⟨a, len, cap, elems, rest, n, hfu, rfl, rfl, hb, hle, hcap, hlen, hels, _, _⟩
 ·exact ⟨[], _, rfl, by simp, rep_nil _ _, by simp, by simpa using hnil⟩
 ·have hone : ∀ i : Fin len, ∃ p : List Value × α, W.cells? base (a.add (i.1 * sz)) sz = some p.1 ∧ Rep (Lo W.heap.size) W (g p.2) p.1 ∧ φ p.2 ∧ f0 p.2 ≤ bk (elems[i.1]'(by have := i.2; omega)).1 := by
   intro ⟨i, hi⟩
   have h1 := hels i hi
   rw [List.getElem?_eq_getElem (by omega), hc] at h1
   obtain ⟨cs', h2, h3⟩ := Option.bind_eq_some_iff.1 h1
   obtain ⟨y, hy, hφ⟩ := hel n cs' _ (by omega) h3
   exact ⟨(cs', y), h2, hy, hφ⟩
  let F : Fin len → List Value × α := fun i => Classical.choose (hone i)
  have hF : ∀ i : Fin len, W.cells? base (a.add (i.1 * sz)) sz = some (F i).1 ∧ Rep (Lo W.heap.size) W (g (F i).2) (F i).1 ∧ φ (F i).2 ∧ f0 (F i).2 ≤ bk (elems[i.1]'(by have := i.2; omega)).1 := fun i => Classical.choose_spec (hone i)
  let f : Nat → List Value := fun i => if hi : i < len then (F ⟨i, hi⟩).1 else []
  let l : List α := List.ofFn fun i => (F i).2
  have hll : l.length = len := by simp [l]
  have hφ : ∀ y ∈ l, φ y := by
   intro y hy
   obtain ⟨i, hi⟩ := (List.mem_ofFn).1 hy
   rw [← hi]; exact (hF i).2.2.1
  have hsum : (l.map f0).sum + 1 ≤ bk (.slice (elems.map (·.1)) (rest.map (·.1))) := by
   refine Nat.le_trans (Nat.succ_le_succ (sum_le (l.map f0) ((elems.map (·.1)).map bk) (by simp [hll, hlen]) (fun i hi hi' => ?_))) (hsl _ _)
   have hi2 : i < len := by simpa [hll] using hi
   have := (hF ⟨i, hi2⟩).2.2.2
   simpa [l] using this
  refine ⟨l, _, rfl, by rw [hll]; omega, ?_, hφ, hsum⟩
  simp only [Sq, Rep]
  refine ⟨some a, cap, by simp [hll], by simpa [hll] using hle, ?_⟩
  by_cases hpos : 0 < len
  ·have hfi : ∀ i, i < len → (f i).length = sz ∧ ∀ j v, (f i)[j]? = some v → W.cell? ((a.add (i * sz)).add j) = some v := by
    intro i hi
    have h1 := (hF ⟨i, hi⟩).1
    have h2 := World.cells?_some h1
    simp only [f, dif_pos hi]
    refine ⟨h2.2.1, fun j v hj => ?_⟩
    have := h2.2.2 j (by have := (List.getElem?_eq_some_iff.1 hj).1; omega)
    rw [this]; exact hj
   obtain ⟨b, off, rfl, hlt, hcells⟩ := row_at hsz hpos hfi
   refine .inr ⟨b, off, _, rfl, hlt, hcells, ?_⟩
   have hreps : ∀ n, n ≤ len → Reps (Lo W.heap.size) W ((l.take n).map g) ((List.range n).flatMap f) := by
    intro n
    induction n with
    | zero => intro _; simp [Reps]
    | succ n ih =>
     intro hn
     have hnl : n < l.length := by omega
     rw [List.take_succ_eq_append_getElem hnl, List.map_append, List.range_succ, List.flatMap_append]
     refine (Reps.app _ _ _).2 ⟨_, _, rfl, ih (by omega), ?_⟩
     simp only [List.map_cons, List.map_nil, List.flatMap_cons, List.flatMap_nil, List.append_nil, Reps]
     refine ⟨f n, [], by simp, ?_, rfl⟩
     have hln : l[n] = (F ⟨n, by omega⟩).2 := by simp [l]
     have hfn : f n = (F ⟨n, by omega⟩).1 := by simp only [f]; rw [dif_pos (by omega)]
     rw [hln, hfn]; exact (hF ⟨n, by omega⟩).2.1
   have := hreps len (Nat.le_refl _)
   rwa [List.take_of_length_le (by omega)] at this
  ·have : l = [] := List.length_eq_zero_iff.1 (by omega)
   left; rw [this]; rfl
end
end Go.Proofs.YtlmnaffhadeolaaGreatDoor

namespace Go.Proofs.YtlmnaffhadeolaaGreatDoor
open Go Go.RowKit Go.ChangeShapes Go.WideShapes Go.ChangeAt
theorem co_u8 : Tryz.prog.cellsOf 5 = 1 := by kernel_rfl
section
set_option maxRecDepth 100000
variable {H : Type} {enc : TypeId × Value → H} {W : World} {base : Nat} {spare : Nat → Bool} {held : Bool}
theorem bk_all {l : List (DataW H)} : Rows.uptoBulkAll l = (l.map Rows.uptoBulk).sum := by
 induction l with
 | nil => rfl
 | cons x l ih => simp only [Rows.uptoBulkAll, List.map_cons, List.sum_cons, ih]
theorem bk_sl (es sp : List (DataW H)) : (es.map Rows.uptoBulk).sum + 1 ≤ Rows.uptoBulk (.slice es sp) := by
 simp only [Rows.uptoBulk, bk_all]; omega
theorem bk_int (k : IntKind) (n : Int) : 1 ≤ Rows.uptoBulk (H := H) (.lit (.int k n)) := by simp [Rows.uptoBulk]
theorem bk_nil : 1 ≤ Rows.uptoBulk (H := H) .nil := by simp [Rows.uptoBulk]
theorem ones_sum {α : Type} (l : List α) : (l.map fun _ => 1).sum = l.length := by
 induction l with
 | nil => rfl
 | cons x l ih => simp only [List.map_cons, List.sum_cons, List.length_cons, ih]; omega
theorem open_bytes {fuel : Nat} {cs : List Value} {x : DataW H × List MemPlace} (h : DataW.trod enc Tryz.prog W base spare held fuel 22 cs = some x) :
  ∃ (s : List UInt8) (v : Value), cs = [v] ∧ s.length ≤ maxLen ∧ Sq W.heap.size W v (s.map byteD) ∧ s.length + 1 ≤ Rows.uptoBulk x.1 := by
 obtain ⟨l, v, h1, h2, h3, _, h5⟩ := open_sq (e := 5) (sz := 1) Tryz.underlying22 co_u8 (by omega) byteD (fun _ => True) (fun _ => 1) Rows.uptoBulk bk_nil bk_sl h (fun n cs' x' _ hx => by
  obtain ⟨m, rfl, hxe, hw⟩ := DataW.trod_int Tryz.underlying5 hx
  have hm : 0 ≤ m ∧ m ≤ 255 := by simpa [Lit.wf, IntKind.min, IntKind.max, IntKind.signed, IntKind.bits] using hw
  refine ⟨UInt8.ofNat m.toNat, ?_, trivial, by rw [hxe]; exact bk_int _ _⟩
  simp only [byteD, Rep]
  rw [byteNat _ (by omega)]
  congr 2
  omega)
 rw [ones_sum] at h5
 exact ⟨l, v, h1, h2, h3, h5⟩
end
end Go.Proofs.YtlmnaffhadeolaaGreatDoor

namespace Go.Proofs.YtlmnaffhadeolaaGreatDoor.BGroupMetadataValue
open Go Go.RowKit Go.ChangeShapes Go.WideShapes Go.ChangeAt
theorem own : ownKnob Tryz.prog.godebug = none := by kernel_rfl
theorem laidOut : laidOutB Tryz.prog = true := by kernel_rfl
theorem gErr : Tryz.prog.globalNamed "pub-mailsack/pub/kmsg/inner/kbin.ErrNotEnoughData" = some 1 := by kernel_rfl
theorem gErrT : (Tryz.prog.globals[(1 : Nat)]?).map (·.type) = some 68 := by kernel_rfl
theorem err_of_laid {W : World} (h : laidMetH Tryz.prog Rows.fnUnsafeGroupMetadataValueRow.laid W) : ∃ u x, W.cell? ⟨1, 0, none⟩ = some (.iface u x) := by
  have h' : laidMet Tryz.prog Rows.fnUnsafeGroupMetadataValueRow.laid W := h
  obtain ⟨ps, ⟨g0, t0, cs0, f0, p0, q0, hg0, ht0, hv0, hd0, _⟩, _⟩ := h'
  obtain rfl := Option.some.inj (gErr.symm.trans hg0)
  obtain rfl := Option.some.inj (gErrT.symm.trans ht0)
  obtain ⟨l0⟩ := cs0
  obtain ⟨fu, u, v, e, _, _⟩ := iface_of_trod Tryz.underlying68 hd0
  have e' : l0 = [.iface u v] := e
  subst e'
  exact ⟨_, _, by simpa using World.var?_cell hg0 hv0 0⟩
abbrev errText : ByteArray := ⟨#[114, 101, 115, 112, 111, 110, 115, 101, 32, 100, 105, 100, 32, 110, 111, 116, 32, 99, 111, 110, 116, 97, 105, 110, 32, 101, 110, 111, 117, 103, 104, 32, 100, 97, 116, 97, 32, 116, 111, 32, 98, 101, 32, 118, 97, 108, 105, 100]⟩
noncomputable def low : Nat := (World.holding Tryz.prog default ⟨#[], #[], []⟩).heap.size
noncomputable def laidWorld (os : Os) : World :=
  let w0 := World.holding Tryz.prog os ⟨#[.cells #[.string errText] 241], #[], []⟩
  { w0 with heap := w0.heap.modify 1 fun
      | .cells _ t frozen => .cells #[.iface 223 (.pointer (some ⟨low, 0, none⟩))] t frozen
      | o => o }
theorem laidWorld_met (os : Os) (args : Array Value) : laidMetH Tryz.prog Rows.fnUnsafeGroupMetadataValueRow.laid ((laidWorld os).forCall (fun _ _ => 0) ⟨#[], args, []⟩).memory :=
  show laidMet Tryz.prog Rows.fnUnsafeGroupMetadataValueRow.laid _ from laidMet_of_run' 8 (by kernel_rfl) (by kernel_rfl)
set_option maxRecDepth 100000 in
theorem lifted (os : Os) (started : os.Started) (H : Type) (enc : TypeId × Value → H) :
    ReturnsInHanded {} Tryz.checked os 4 .any (fun w args => (Rows.fnUnsafeGroupMetadataValueSpec.pre enc Tryz.prog Tryz.f4 [] false w args ∧ laidMetH Tryz.prog Rows.fnUnsafeGroupMetadataValueRow.laid w) ∧ sizedMet enc Tryz.prog Tryz.f4 (OpenSpec.ofChange Rows.fnUnsafeGroupMetadataValueSpec) false w args)
      (Rows.fnUnsafeGroupMetadataValueSpec.post enc Tryz.prog Tryz.f4 false true false false) := by
  refine returnsInHanded_of_change_and (C := Tryz.checked) (X := fun w _ => laidMetH Tryz.prog Rows.fnUnsafeGroupMetadataValueRow.laid w) (fun _ _ _ hh h => h.of_heap hh) own started (by kernel_rfl) Tryz.func4
    (ChangeSpec.witness_at (enc := enc) (C := Tryz.checked) (os := os) (X := fun w _ => laidMetH Tryz.prog Rows.fnUnsafeGroupMetadataValueRow.laid w) false (laidWorld os) #[.slice none 0 0] 8 rfl (by kernel_rfl) (by kernel_rfl) (by kernel_rfl) (by kernel_rfl) (by kernel_rfl) (laidWorld_met os _)) ?_
  intro W base args ds gs before hval0 hW _ _ hL _
  have hval : ∀ (j : Nat) t v, Tryz.f4.params[j]? = some t → args[j]? = some v → Value.okWide Tryz.prog W .any base t v := hval0
  have hW' := hW
  obtain ⟨p, q, hA0, hV, rfl, hfz, hnd⟩ := hW
  have hA : DataW.TrodAll enc Tryz.prog W 0 (fun _ => true) true Tryz.f4.params.toList args.toList ds p := hA0
  rw [Tryz.params4] at hA hval
  obtain ⟨v1, d1, rfl, rfl, h1⟩ := trodAll_one hA
  obtain ⟨rfl, rfl⟩ := trodVars_none hV
  obtain ⟨sa, sl, sc, rfl⟩ := okWide_slice Tryz.underlying22 (hval 0 22 v1 rfl rfl)
  obtain ⟨fuel1, hf1⟩ := id h1
  obtain ⟨xs, xv, hxv, _, hxs, _⟩ := open_bytes hf1
  have hxv' : Value.slice sa sl sc = xv := by
    have h : [Value.slice sa sl sc] = [xv] := hxv
    simpa using h
  subst hxv'
  obtain ⟨eu, ex, hev⟩ := err_of_laid hL
  clear hA0 hval0
  simp only [List.append_nil, List.nil_append] at hW'
  have hbx := hxs.bytes
  obtain ⟨sa2, sc2, hsh⟩ := hbx.shape
  simp only [Value.slice.injEq] at hsh
  obtain ⟨rfl, rfl, rfl⟩ := hsh
  have hlaw := fn_law W eu ex _ _ xs hbx hev
  refine Calls.mono hlaw fun e W' he => ?_
  obtain ⟨v, rfl, hb, rfl⟩ := he
  refine ⟨_, rfl, _, _, _, [], p, [], hW', trodAll_mk1 (shut_bool Tryz.underlying4 _), ?_, ?_, hb.frame _, fun h => by cases h⟩
  · exact trodAll_mk1 (Below.trod laidOut (by kernel_rfl) (Nat.le_of_ble_eq_true (by kernel_rfl)) h1 hb (fun x hx => hW'.lt x hx))
  · rfl
theorem said : Rows.FnUnsafeGroupMetadataValueSaid :=
  OpenClaim.holds_of_wide 4 Tryz.f4 rfl rfl rfl rfl rfl rfl rfl ⟨rfl, rfl, rfl, rfl, rfl⟩ rfl rfl rfl rfl rfl (by kernel_rfl) Tryz.func4 (by kernel_rfl)
    (of_decide_eq_true (by kernel_rfl)) (by unfold Func.isWrapper; first | (rw [if_pos (by decide +kernel)]; kernel_rfl) | (rw [if_neg (by decide +kernel)]; exact ⟨rfl, rfl⟩))
    (fun os started H enc _ => lifted os started H enc)
theorem row_tie : Rows.fnUnsafeGroupMetadataValueRow.laidByTextAt .later Tryz.pinned [.sentinel] true :=
  OpenClaim.laidByTextAt_later rfl rfl tie (by kernel_rfl)
theorem holds : Rows.FnUnsafeGroupMetadataValueCardSaid :=
  Claim7.holds_tied_plain_at .later [] [.sentinel] true (true, "951202c2ee62a2485c2c11205be3cb855fe0e9b9b0ed7893dd37afa4e79e5067") false
    said (fun _ h => by cases h) (by kernel_rfl) (fun _ h => by cases h) row_tie rfl ⟨rfl, rfl⟩ (by kernel_rfl) rfl
    (fun f fn hf hfn => by
      obtain rfl : f = 4 := Option.some.inj ((show Tryz.prog.funcNamed "pub-mailsack/laws.FnUnsafeGroupMetadataValue" = some 4 by kernel_rfl).symm.trans hf) |>.symm
      obtain rfl : fn = Tryz.f4 := (Option.some.inj (Tryz.func4.symm.trans hfn)).symm
      exact ⟨by kernel_rfl, fun j t ht => by
        rw [Tryz.params4] at ht
        have hh : Tryz.prog.wantsStandIn 22 = false := by kernel_rfl
        match j, ht with
        | 0, ht => obtain rfl : 22 = t := by simpa using ht
                   exact hh
        | j + 1, ht => simp at ht⟩)
    (by kernel_rfl)
end Go.Proofs.YtlmnaffhadeolaaGreatDoor.BGroupMetadataValue
