/- FnUnsafeUpdateRaftVoterResponse: the row, and its card, its one listed variable tied to the program's text (the tie is given). Conditions: those of the row, no others. -/
import Derived.Test.YtoncnffdlejbaaaDoorPartG
import Derived.Test.YtoncnffdlejbaaaDoorPartA
import Derived.ProofKit
import Derived.OpenShut
import Derived.Test.YtoncnffdlejbaaaDoorPartE
import Derived.Test.YtoncnffdlejbaaaDoorPartF
import Derived.Test.YtoncnffdlejbaaaDoorRows
import Derived.Test.YtoncnffdlejbaaaDoorCards
import Derived.Test.YtoncnffdlejbaaaDoorTie
import Derived.ChangeSame
import Derived.ChangeVars
import Derived.JoinedOf
import Derived.RowKit
import Derived.RowKitTokens
import Derived.LaidLaws
import Derived.LaidHandle
import Derived.Stop.Joined
import Derived.SevenTiedAt
set_option linter.all false
namespace Go.Proofs.YtoncnffdlejbaaaDoor.BUpdateRaftVoterResponse
open Go Go.RowKit
section
set_option maxRecDepth 100000
set_option maxHeartbeats 4000000 in
theorem fn_end (v : Nat) (hv : v ≤ most) (o0 : Option Tree) (n : Nat) (hnv : n % (most + 1) = v) (hn : n < 256) (w : World) (u : TypeId) (x : Value) (sa : Option Addr) (sc : Nat) (xs : List UInt8) (hs : BytesAt w (.slice sa xs.length sc) xs) (hg : w.cell? ⟨1, 0, none⟩ = some (.iface u x)) (Ho : Urv.ComesN m.fields (v : Int) Urv.ld0 xs o0) (hxl : xs.length ≤ 1000) :
  Fn 6 [.int .u8 (n : Int), .slice sa xs.length sc] w fun v _ => v = .bool true := by
 have hgk : ∀ w' : World, Below w.heap.size w w' → w'.cell? ⟨1, 0, none⟩ = some (.iface u x) := fun w' hb => by
  rw [← hg]; simp only [World.cell?, hb.block _ (World.block_lt_of_cell? _ _ hg)]
 refine enter Tryd.func6 rfl Tryd.ntmps6 rfl ?_
 repeat first|(with_reducible first|apply wc_seq|apply wc_region|apply wl_nil|apply qk_thn)|((with_reducible apply ws);exact rfl;exact rfl)
 refine wc_no rfl (by simp; omega) ?_
 repeat (with_reducible first|apply wc_seq|apply wc_region|apply qk_thn|apply wc_skip)
 refine wl_call rfl (by kernel_rfl) rfl ((fn_max w).mono ?_)
 rintro e w3 ⟨rfl, hwA3⟩
 refine ⟨_, rfl, ?_⟩
 repeat first|(with_reducible first|apply wc_seq|apply wc_region|apply wl_nil|apply qk_thn)|((with_reducible apply ws);exact rfl;exact rfl)
 refine wc_no rfl (by decide) ?_
 repeat first|(with_reducible first|apply wc_seq|apply wc_region|apply wl_nil|apply qk_thn|apply wc_skip)|((with_reducible apply ws);exact rfl;exact rfl)
 refine wc_no rfl (by simp; omega) ?_
 repeat first|(with_reducible first|apply wc_seq|apply wc_region|apply qk_thn|apply wc_skip)|((with_reducible apply ws);exact rfl;exact rfl)
 refine wl_call rfl (by kernel_rfl) rfl ((fn_version n most hn (by decide) w3).mono ?_)
 rintro e w3' ⟨v', rfl, _, hww, rfl⟩
 obtain rfl : w3 = w3' := hww.symm
 refine ⟨_, rfl, ?_⟩
 rw [hnv]
 repeat ((with_reducible apply ws);exact rfl;exact rfl)
 cases o0 with
 | none =>
  refine wl_call rfl (by kernel_rfl) rfl ((fn_doorT v hv w3 u x (.slice sa xs.length sc) xs (by omega) (hs.below hwA3) (hgk w3 hwA3) none Ho).mono ?_)
  rintro e w4 h4
  obtain ⟨hw4, cs4, rfl, hcs4⟩ := h4
  have hone4 : (cs4.all fun v => v.oneCell') = true := by rw [hcs4]; rfl
  have hlen4 : cs4.length = 5 := by rw [hcs4]; rfl
  refine ⟨_, rfl, ?_⟩
  have hz4 := hw4.size
  have hwA4 := hwA3.trans (hw4.mono hwA3.size)
  repeat ((with_reducible apply ws);exact rfl;exact rfl)
  refine wl_extract rfl rfl rfl ?_
  refine wl_extract rfl rfl rfl ?_
  refine wl_alloc Impl.zv_tree rfl rfl (fun w5 hb5 hg5 hs5 => ?_)
  refine wl_storeBAgg (vs := cs4) rfl rfl rfl (by rw [hlen4]; exact Impl.tz_tree) hone4 hb5 (by rw [hlen4]; rfl) (fun w6 hb6 hg6 hs6 => ?_)
  have hwB6 : Below w4.heap.size w4 w6 := (below_of hg5 (Nat.le_refl _) (by simp)).trans (below_of hg6 (by omega) (by intro q hq; simp at hq; omega))
  have hz6 := hwB6.size
  have hwA6 := hwA4.trans (hwB6.mono hwA4.size)
  repeat first|(with_reducible first|apply wc_seq|apply wc_region|apply wl_nil|apply qk_thn)|((with_reducible apply ws);exact rfl;exact rfl)
  refine wl_call rfl (by kernel_rfl) rfl ((fn_version n most hn (by decide) w6).mono ?_)
  rintro e w6' ⟨v', rfl, _, hww, rfl⟩
  obtain rfl : w6 = w6' := hww.symm
  refine ⟨_, rfl, ?_⟩
  rw [hnv]
  repeat ((with_reducible apply ws);exact rfl;exact rfl)
  refine wl_call rfl (by kernel_rfl) rfl ((fn_doorU v hv w6 u x (.slice sa xs.length sc) xs (by omega) (hs.below hwA6) (hgk w6 hwA6) none Ho).mono ?_)
  rintro e w7 h7
  obtain ⟨hw7, cs7, rfl, hcs7⟩ := h7
  have hone7 : (cs7.all fun v => v.oneCell') = true := by rw [hcs7]; rfl
  have hlen7 : cs7.length = 5 := by rw [hcs7]; rfl
  refine ⟨_, rfl, ?_⟩
  have hz7 := hw7.size
  have hwA7 := hwA6.trans (hw7.mono hwA6.size)
  repeat ((with_reducible apply ws);exact rfl;exact rfl)
  refine wl_extract rfl rfl rfl ?_
  refine wl_extract rfl rfl rfl ?_
  refine wl_alloc Impl.zv_tree rfl rfl (fun w8 hb8 hg8 hs8 => ?_)
  refine wl_storeBAgg (vs := cs7) rfl rfl rfl (by rw [hlen7]; exact Impl.tz_tree) hone7 hb8 (by rw [hlen7]; rfl) (fun w9 hb9 hg9 hs9 => ?_)
  have hwB9 : Below w7.heap.size w7 w9 := (below_of hg8 (Nat.le_refl _) (by simp)).trans (below_of hg9 (by omega) (by intro q hq; simp at hq; omega))
  have hz9 := hwB9.size
  have hwA9 := hwA7.trans (hwB9.mono hwA7.size)
  repeat first|(with_reducible first|apply wc_seq|apply wl_nil|apply qk_thn)|((with_reducible apply ws);exact rfl;exact rfl)
  refine wc_par [(0, .bool false), (1, .bool false), (2, .bool true), (3, .bool true), (4, .bool false), (5, .bool true), (6, .bool true), (7, undef), (8, undef), (9, undef), (10, undef), (11, undef), (12, .bool true), (13, .bool true)] [14]
   (fun vals w' => Below w9.heap.size w9 w' ∧ match vals with
    | [] => True
    | v :: _ => v = .bool true)
   mixed rfl rfl rfl rfl rfl (by show ([0,1,2,3,4,5,6,7,8,9,10,11,12,13] : List Nat).Nodup; decide) rfl rfl (by decide) rfl rfl rfl rfl ⟨(Below.refl _ w9).drew, trivial⟩ ?_ ⟨?_, trivial⟩ ?_
  ·intro p hp vals w' hC a k
   simp only [List.mem_cons, List.not_mem_nil, or_false] at hp
   rcases hp with rfl | rfl | rfl | rfl | rfl | rfl | rfl | rfl | rfl | rfl | rfl | rfl | rfl | rfl
   ·exact gv rfl rfl (rn_move k rfl)
   ·exact gv rfl rfl (rn_move k rfl)
   ·exact gv rfl rfl ((rn_eqlB k rfl rfl Tryd.underlying4).trans rfl)
   ·exact gv rfl rfl (rn_move k rfl)
   ·exact gv_yes rfl rfl rfl k rfl rfl (rn_move k rfl)
   ·exact gv_yes rfl rfl rfl k rfl rfl ((rn_not k rfl).trans rfl)
   ·exact gv_yes rfl rfl rfl k rfl rfl (rn_move k rfl)
   iterate 5 (exact gv_no rfl rfl rfl k rfl rfl)
   ·exact gv_yes rfl rfl rfl k rfl rfl (rn_pick k rfl rfl)
   ·exact gv rfl rfl (rn_pick k rfl rfl)
  ·rintro vals w' hvl ⟨hb', _⟩ a k
   match vals, hvl with
   | [], _ => exact ⟨_, rfl, does_assign k rfl ⟨hb', rfl⟩⟩
  ·rintro vals w' hvl ⟨hb', hC⟩
   match vals, hvl with
   | [v14], _ =>
    simp only [] at hC
    subst hC
    refine qk_thn ?_
    repeat (with_reducible apply wc_ret)
    exact qk_ret1 rfl rfl ⟨_, rfl, hwA9.trans (hb'.mono hwA9.size), rfl⟩
 | some T0 =>
  refine wl_call rfl (by kernel_rfl) rfl ((fn_doorT v hv w3 u x (.slice sa xs.length sc) xs (by omega) (hs.below hwA3) (hgk w3 hwA3) (some T0) Ho).mono ?_)
  rintro e w4 h4
  obtain ⟨hw4, cs4, rfl, hr4⟩ := h4
  obtain ⟨hone4, hlen4⟩ := tree_one hr4
  refine ⟨_, rfl, ?_⟩
  have hz4 := hw4.size
  have hwA4 := hwA3.trans (hw4.mono hwA3.size)
  repeat ((with_reducible apply ws);exact rfl;exact rfl)
  refine wl_extract rfl rfl rfl ?_
  refine wl_extract rfl rfl rfl ?_
  refine wl_alloc Impl.zv_tree rfl rfl (fun w5 hb5 hg5 hs5 => ?_)
  refine wl_storeBAgg (vs := cs4) rfl rfl rfl (by rw [hlen4]; exact Impl.tz_tree) hone4 hb5 (by rw [hlen4]; rfl) (fun w6 hb6 hg6 hs6 => ?_)
  have hwB6 : Below w4.heap.size w4 w6 := (below_of hg5 (Nat.le_refl _) (by simp)).trans (below_of hg6 (by omega) (by intro q hq; simp at hq; omega))
  have hz6 := hwB6.size
  have hwA6 := hwA4.trans (hwB6.mono hwA4.size)
  repeat first|(with_reducible first|apply wc_seq|apply wc_region|apply wl_nil|apply qk_thn)|((with_reducible apply ws);exact rfl;exact rfl)
  refine wl_call rfl (by kernel_rfl) rfl ((fn_version n most hn (by decide) w6).mono ?_)
  rintro e w6' ⟨v', rfl, _, hww, rfl⟩
  obtain rfl : w6 = w6' := hww.symm
  refine ⟨_, rfl, ?_⟩
  rw [hnv]
  repeat ((with_reducible apply ws);exact rfl;exact rfl)
  refine wl_call rfl (by kernel_rfl) rfl ((fn_doorU v hv w6 u x (.slice sa xs.length sc) xs (by omega) (hs.below hwA6) (hgk w6 hwA6) (some T0) Ho).mono ?_)
  rintro e w7 h7
  obtain ⟨hw7, cs7, rfl, hr7⟩ := h7
  obtain ⟨hone7, hlen7⟩ := tree_one hr7
  refine ⟨_, rfl, ?_⟩
  have hz7 := hw7.size
  have hwA7 := hwA6.trans (hw7.mono hwA6.size)
  repeat ((with_reducible apply ws);exact rfl;exact rfl)
  refine wl_extract rfl rfl rfl ?_
  refine wl_extract rfl rfl rfl ?_
  refine wl_alloc Impl.zv_tree rfl rfl (fun w8 hb8 hg8 hs8 => ?_)
  refine wl_storeBAgg (vs := cs7) rfl rfl rfl (by rw [hlen7]; exact Impl.tz_tree) hone7 hb8 (by rw [hlen7]; rfl) (fun w9 hb9 hg9 hs9 => ?_)
  have hwB9 : Below w7.heap.size w7 w9 := (below_of hg8 (Nat.le_refl _) (by simp)).trans (below_of hg9 (by omega) (by intro q hq; simp at hq; omega))
  have hz9 := hwB9.size
  have hwA9 := hwA7.trans (hwB9.mono hwA7.size)
  obtain ⟨_, _, _, _, _, _, _, hfine, _⟩ := Ho
  have hsm := fine_small hfine
  have hw69 : Below w6.heap.size w6 w9 := hw7.trans (hwB9.mono hz7)
  have hw49 : Below w4.heap.size w4 w9 := hwB6.trans (hw69.mono hz6)
  have hr4' : Rep (Lo w9.heap.size) w9 (treeD T0) cs4 := Rep.below hr4 hw49 hw49.size
  have hr7' : Rep (Lo w9.heap.size) w9 (treeD T0) cs7 := Rep.below hr7 hwB9 hwB9.size
  have hb69 := hb6.below hw69 hb6.lt
  repeat first|(with_reducible first|apply wc_seq|apply wl_nil|apply qk_thn)|((with_reducible apply ws);exact rfl;exact rfl)
  refine wc_par [(0, .bool true), (1, .bool true), (2, .bool true), (3, .bool true), (4, .bool true), (5, .bool false), (6, .bool false), (7, .agg cs4.toArray), (9, .agg cs7.toArray)] [14, 13, 12, 11, 10, 8]
   (fun vals w' => Below w9.heap.size w9 w' ∧ match vals with
    | [] => True
    | [v8] => ∃ cs : List Value, v8 = .agg cs.toArray ∧ Rep (In w9.heap.size w9.heap.size w') w' (treeD T0) cs
    | [v10, v8] => (∃ cs : List Value, v10 = .agg cs.toArray ∧ Rep (In w9.heap.size w9.heap.size w') w' (treeD T0) cs) ∧ ∃ cs : List Value, v8 = .agg cs.toArray ∧ Rep (In w9.heap.size w9.heap.size w') w' (treeD T0) cs
    | v :: _ => v = .bool true)
   mixed rfl rfl rfl rfl rfl (by show ([0,1,2,3,4,5,6,7,9] : List Nat).Nodup; decide) rfl rfl (by decide) rfl rfl rfl rfl ⟨(Below.refl _ w9).drew, trivial⟩ ?_ ⟨?_, ?_, ?_, ?_, ?_, ?_, trivial⟩ ?_
  ·intro p hp vals w' hC a k
   simp only [List.mem_cons, List.not_mem_nil, or_false] at hp
   rcases hp with rfl | rfl | rfl | rfl | rfl | rfl | rfl | rfl | rfl
   ·exact gv rfl rfl (rn_move k rfl)
   ·exact gv rfl rfl (rn_move k rfl)
   ·exact gv rfl rfl ((rn_eqlB k rfl rfl Tryd.underlying4).trans rfl)
   ·exact gv rfl rfl (rn_move k rfl)
   ·exact gv_yes rfl rfl rfl k rfl rfl (rn_move k rfl)
   ·exact gv_yes rfl rfl rfl k rfl rfl ((rn_not k rfl).trans rfl)
   ·exact gv_yes rfl rfl rfl k rfl rfl (rn_move k rfl)
   ·exact gv_yes rfl rfl rfl k rfl rfl (rn_loadBAgg k rfl (by rw [hlen4]; exact Impl.ta_tree) (hb69.below hC.1 hb69.lt))
   ·exact gv_yes rfl rfl rfl k rfl rfl (rn_loadBAgg k rfl (by rw [hlen7]; exact Impl.ta_tree) (hb9.below hC.1 hb9.lt))
  ·rintro vals w' hvl ⟨hb', hC⟩ a k
   match vals, hvl with
   | [v13, v12, v11, v10, v8], _ => exact ⟨_, rfl, does_assign k rfl ⟨hb', hC⟩⟩
  ·rintro vals w' hvl ⟨hb', hC⟩ a k
   match vals, hvl with
   | [v12, v11, v10, v8], _ =>
    simp only [] at hC
    subst hC
    exact ⟨_, rfl, does_pick (b := true) (v := .bool true) k rfl rfl ⟨hb', rfl⟩⟩
  ·rintro vals w' hvl ⟨hb', hC⟩ a k
   match vals, hvl with
   | [v11, v10, v8], _ =>
    simp only [] at hC
    subst hC
    exact ⟨_, rfl, does_pick (b := false) (v := .bool true) k rfl rfl ⟨hb', rfl⟩⟩
  ·rintro vals w' hvl ⟨hb', hC⟩ a k
   match vals, hvl with
   | [v10, v8], _ =>
    obtain ⟨⟨ca, rfl, ha⟩, cb, rfl, hb⟩ := hC
    refine ⟨_, rfl, does_call k rfl (by kernel_rfl) ((Sam.sam_ok T0 w'.heap.size w' _ _ hfine (Nat.le_refl _) (hb.up (fun r hr => hr.2) (fun _ _ => rfl)) (ha.up (fun r hr => hr.2) (fun _ _ => rfl))).mono ?_)⟩
    rintro e w'' ⟨v, rfl, hb'', rfl⟩
    exact ⟨_, rfl, hb'.trans (hb''.mono hb'.size), rfl⟩
  ·rintro vals w' hvl ⟨hb', hC⟩ a k
   match vals, hvl with
   | [v8], _ =>
    obtain ⟨ca, rfl, ha⟩ := hC
    have hz' := hb'.size
    refine ⟨_, rfl, does_call k rfl (by kernel_rfl) ((Got.got_ok T0 w9.heap.size w' _ hsm hz' (Rep.below hr7' hb' (Nat.le_refl _))).mono ?_)⟩
    rintro e w'' ⟨v, rfl, hb'', cs, rfl, hr⟩
    exact ⟨_, rfl, hb'.trans (hb''.mono hz'), ⟨cs, rfl, hr.up (fun r hr => ⟨hr.1.imp (fun h => h) (fun h => by omega), hr.2⟩) (fun _ _ => rfl)⟩, ca, rfl, ha.up (fun r hr => ⟨hr.1, Nat.lt_of_lt_of_le hr.2 hb''.size⟩) (fun r hr => hb''.block r hr.2)⟩
  ·rintro vals w' hvl ⟨hb', hC⟩ a k
   match vals, hvl with
   | [], _ =>
    have hz' := hb'.size
    refine ⟨_, rfl, does_call k rfl (by kernel_rfl) ((Got.got_ok T0 w9.heap.size w' _ hsm hz' (Rep.below hr4' hb' (Nat.le_refl _))).mono ?_)⟩
    rintro e w'' ⟨v, rfl, hb'', cs, rfl, hr⟩
    exact ⟨_, rfl, hb'.trans (hb''.mono hz'), cs, rfl, hr.up (fun r hr => ⟨hr.1.imp (fun h => h) (fun h => by omega), hr.2⟩) (fun _ _ => rfl)⟩
  ·rintro vals w' hvl ⟨hb', hC⟩
   match vals, hvl with
   | [v14, v13, v12, v11, v10, v8], _ =>
    simp only [] at hC
    subst hC
    refine qk_thn ?_
    repeat (with_reducible apply wc_ret)
    exact qk_ret1 rfl rfl ⟨_, rfl, hwA9.trans (hb'.mono hwA9.size), rfl⟩
set_option maxHeartbeats 4000000 in
theorem fn_law (n : Nat) (hn : n < 256) (w : World) (u : TypeId) (x : Value) (sa : Option Addr) (sc : Nat) (xs : List UInt8) (hs : BytesAt w (.slice sa xs.length sc) xs) (hg : w.cell? ⟨1, 0, none⟩ = some (.iface u x)) :
  Fn 6 [.int .u8 (n : Int), .slice sa xs.length sc] w fun v _ => v = .bool true := by
 by_cases hxl : xs.length ≤ 1000
 ·have hv : n % (most + 1) ≤ most := by have := Nat.mod_lt n (show most + 1 > 0 by omega); omega
  obtain ⟨o, Ho⟩ := rd (n % (most + 1)) xs hxl
  exact fn_end _ hv o n rfl hn w u x sa sc xs hs hg Ho hxl
 ·refine enter Tryd.func6 rfl Tryd.ntmps6 rfl ?_
  repeat first|(with_reducible first|apply wc_seq|apply wc_region|apply wl_nil|apply qk_thn)|((with_reducible apply ws);exact rfl;exact rfl)
  by_cases hbig : 2147483647 < xs.length
  ·refine wc_yes rfl (by simp; omega) ?_
   repeat first|(with_reducible first|apply wc_seq|apply wc_region|apply wl_nil|apply qk_thn|apply wc_ret|apply qk_thn_ret)|((with_reducible apply ws);exact rfl;exact rfl)
   exact qk_ret1 rfl rfl ⟨_, rfl, Below.refl _ _, rfl⟩
  refine wc_no rfl (by simp; omega) ?_
  repeat (with_reducible first|apply wc_seq|apply wc_region|apply qk_thn|apply wc_skip)
  refine wl_call rfl (by kernel_rfl) rfl ((fn_max w).mono ?_)
  rintro e w3 ⟨rfl, hwA3⟩
  refine ⟨_, rfl, ?_⟩
  repeat first|(with_reducible first|apply wc_seq|apply wc_region|apply wl_nil|apply qk_thn)|((with_reducible apply ws);exact rfl;exact rfl)
  refine wc_no rfl (by decide) ?_
  repeat first|(with_reducible first|apply wc_seq|apply wc_region|apply wl_nil|apply qk_thn|apply wc_skip)|((with_reducible apply ws);exact rfl;exact rfl)
  refine wc_yes rfl (by simp; omega) ?_
  repeat first|(with_reducible first|apply wc_seq|apply wc_region|apply wl_nil|apply qk_thn|apply wc_ret|apply qk_thn_ret)|((with_reducible apply ws);exact rfl;exact rfl)
  exact qk_ret1 rfl rfl ⟨_, rfl, hwA3, rfl⟩
end
end Go.Proofs.YtoncnffdlejbaaaDoor.BUpdateRaftVoterResponse

namespace Go.Proofs.YtoncnffdlejbaaaDoor
open Go Go.RowKit Go.ChangeShapes Go.WideShapes Go.ChangeAt
theorem row_at {W : World} {a : Addr} {sz len : Nat} {f : Nat → List Value} (hsz : 0 < sz) (hlen : 0 < len)
  (hf : ∀ i, i < len → (f i).length = sz ∧ ∀ j v, (f i)[j]? = some v → W.cell? ((a.add (i * sz)).add j) = some v) :
  ∃ b off, a = ⟨b, off, none⟩ ∧ b < W.heap.size ∧ CellsAt W b off ((List.range len).flatMap f) := by
 have h0 := hf 0 hlen
 obtain ⟨b, off, spot⟩ := a
 have hx : ∃ v, (f 0)[0]? = some v := by
  cases hv : (f 0)[0]? with
  | none => rw [List.getElem?_eq_none_iff] at hv; omega
  | some v => exact ⟨v, rfl⟩
 obtain ⟨v0, hv0⟩ := hx
 have hc0 := h0.2 0 v0 hv0
 have hspot : spot = none := by simpa [Addr.add] using World.cell?_spot hc0
 subst hspot
 simp only [Nat.zero_mul] at hc0
 have hadd : ∀ n m, (Addr.add (Addr.add ⟨b, off, none⟩ n) m) = ⟨b, off + n + m, none⟩ := fun n m => by rw [add_plain ⟨b, off, none⟩ n rfl]; rw [add_plain _ _ rfl]
 rw [hadd] at hc0
 have hobj : ∃ arr e fz, W.heap[b]? = some (.cells arr e fz) := by
  unfold World.cell? at hc0
  split at hc0
  ·rename_i c e fz hh; exact ⟨c, e, fz, hh⟩
  ·cases hc0
 obtain ⟨arr, e, fz, hh⟩ := hobj
 have hall : ∀ i j v, i < len → (f i)[j]? = some v → arr[off + i * sz + j]? = some v := by
  intro i j v hi hv
  have := (hf i hi).2 j v hv
  rw [hadd] at this
  simpa [World.cell?, hh] using this
 have hflat : ∀ n, n ≤ len → ((List.range n).flatMap f).length = n * sz ∧ ∀ q v, ((List.range n).flatMap f)[q]? = some v → arr[off + q]? = some v := by
  intro n
  induction n with
  | zero => intro _; simp
  | succ n ih =>
   intro hn
   obtain ⟨hl, hq⟩ := ih (by omega)
   rw [List.range_succ, List.flatMap_append]
   simp only [List.flatMap_cons, List.flatMap_nil, List.append_nil]
   refine ⟨by rw [List.length_append, hl, (hf n (by omega)).1, Nat.succ_mul], fun q v hv => ?_⟩
   by_cases hlt : q < n * sz
   ·rw [List.getElem?_append_left (by omega)] at hv; exact hq q v hv
   ·rw [List.getElem?_append_right (by omega), hl] at hv
    have := hall n (q - n * sz) v (by omega) hv
    rwa [show off + n * sz + (q - n * sz) = off + q from by omega] at this
 obtain ⟨hl, hq⟩ := hflat len (Nat.le_refl _)
 refine ⟨b, off, rfl, (Array.getElem?_eq_some_iff.1 hh).1, arr, e, fz, hh, ?_, hq⟩
 have hpos : 0 < len * sz := Nat.mul_pos hlen hsz
 have hlast : ∃ v, ((List.range len).flatMap f)[len * sz - 1]? = some v := by
  cases hv : ((List.range len).flatMap f)[len * sz - 1]? with
  | none => rw [List.getElem?_eq_none_iff] at hv; omega
  | some v => exact ⟨v, rfl⟩
 obtain ⟨v, hv⟩ := hlast
 have := (Array.getElem?_eq_some_iff.1 (hq _ v hv)).1
 rw [hl]; omega
theorem sum_le : ∀ (a b : List Nat), a.length = b.length → (∀ i (h : i < a.length) (h' : i < b.length), a[i] ≤ b[i]) → a.sum ≤ b.sum
 | [], b, _, _ => by simp
 | x :: a, [], h, _ => by simp at h
 | x :: a, y :: b, h, hall => by
  have h0 := hall 0 (by simp) (by simp)
  have h1 := sum_le a b (by simpa using h) (fun i hi hi' => by have := hall (i + 1) (by simpa using hi) (by simpa using hi'); simpa using this)
  simp only [List.getElem_cons_zero] at h0
  simp only [List.sum_cons]; omega
section
variable {H : Type} {enc : TypeId × Value → H} {P : Program} {W : World} {base : Nat} {spare : Nat → Bool} {held : Bool}
theorem open_sq {α : Type} {t e sz : Nat} (ht : P.underlying t = some (.slice e)) (hc : P.cellsOf e = sz) (hsz : 0 < sz) (g : α → D) (φ : α → Prop) (f0 : α → Nat) (bk : DataW H → Nat) (hnil : 1 ≤ bk .nil) (hsl : ∀ es sp : List (DataW H), (es.map bk).sum + 1 ≤ bk (.slice es sp)) {fuel : Nat} {cs : List Value} {x : DataW H × List MemPlace}
  (h : DataW.trod enc P W base spare held fuel t cs = some x)
  (hel : ∀ n cs' x', n < fuel → DataW.trod enc P W base spare held n e cs' = some x' → ∃ y : α, Rep (Lo W.heap.size) W (g y) cs' ∧ φ y ∧ f0 y ≤ bk x'.1) :
  ∃ (l : List α) (v : Value), cs = [v] ∧ l.length ≤ maxLen ∧ Sq W.heap.size W v (l.map g) ∧ (∀ y ∈ l, φ y) ∧ (l.map f0).sum + 1 ≤ bk x.1 := by
 rcases DataW.trod_slice ht h with ⟨rfl, rfl⟩ | ⟨a, len, cap, elems, rest, n, hfu, rfl, rfl, hb, hle, hcap, hlen, hels, _, _⟩
 ·exact ⟨[], _, rfl, by simp, rep_nil _ _, by simp, by simpa using hnil⟩
 ·have hone : ∀ i : Fin len, ∃ p : List Value × α, W.cells? base (a.add (i.1 * sz)) sz = some p.1 ∧ Rep (Lo W.heap.size) W (g p.2) p.1 ∧ φ p.2 ∧ f0 p.2 ≤ bk (elems[i.1]'(by have := i.2; omega)).1 := by
   intro ⟨i, hi⟩
   have h1 := hels i hi
   rw [List.getElem?_eq_getElem (by omega), hc] at h1
   obtain ⟨cs', h2, h3⟩ := Option.bind_eq_some_iff.1 h1
   obtain ⟨y, hy, hφ⟩ := hel n cs' _ (by omega) h3
   exact ⟨(cs', y), h2, hy, hφ⟩
  let F : Fin len → List Value × α := fun i => Classical.choose (hone i)
  have hF : ∀ i : Fin len, W.cells? base (a.add (i.1 * sz)) sz = some (F i).1 ∧ Rep (Lo W.heap.size) W (g (F i).2) (F i).1 ∧ φ (F i).2 ∧ f0 (F i).2 ≤ bk (elems[i.1]'(by have := i.2; omega)).1 := fun i => Classical.choose_spec (hone i)
  let f : Nat → List Value := fun i => if hi : i < len then (F ⟨i, hi⟩).1 else []
  let l : List α := List.ofFn fun i => (F i).2
  have hll : l.length = len := by simp [l]
  have hφ : ∀ y ∈ l, φ y := by
   intro y hy
   obtain ⟨i, hi⟩ := (List.mem_ofFn).1 hy
   rw [← hi]; exact (hF i).2.2.1
  have hsum : (l.map f0).sum + 1 ≤ bk (.slice (elems.map (·.1)) (rest.map (·.1))) := by
   refine Nat.le_trans (Nat.succ_le_succ (sum_le (l.map f0) ((elems.map (·.1)).map bk) (by simp [hll, hlen]) (fun i hi hi' => ?_))) (hsl _ _)
   have hi2 : i < len := by simpa [hll] using hi
   have := (hF ⟨i, hi2⟩).2.2.2
   simpa [l] using this
  refine ⟨l, _, rfl, by rw [hll]; omega, ?_, hφ, hsum⟩
  simp only [Sq, Rep]
  refine ⟨some a, cap, by simp [hll], by simpa [hll] using hle, ?_⟩
  by_cases hpos : 0 < len
  ·have hfi : ∀ i, i < len → (f i).length = sz ∧ ∀ j v, (f i)[j]? = some v → W.cell? ((a.add (i * sz)).add j) = some v := by
    intro i hi
    have h1 := (hF ⟨i, hi⟩).1
    have h2 := World.cells?_some h1
    simp only [f, dif_pos hi]
    refine ⟨h2.2.1, fun j v hj => ?_⟩
    have := h2.2.2 j (by have := (List.getElem?_eq_some_iff.1 hj).1; omega)
    rw [this]; exact hj
   obtain ⟨b, off, rfl, hlt, hcells⟩ := row_at hsz hpos hfi
   refine .inr ⟨b, off, _, rfl, hlt, hcells, ?_⟩
   have hreps : ∀ n, n ≤ len → Reps (Lo W.heap.size) W ((l.take n).map g) ((List.range n).flatMap f) := by
    intro n
    induction n with
    | zero => intro _; simp [Reps]
    | succ n ih =>
     intro hn
     have hnl : n < l.length := by omega
     rw [List.take_succ_eq_append_getElem hnl, List.map_append, List.range_succ, List.flatMap_append]
     refine (Reps.app _ _ _).2 ⟨_, _, rfl, ih (by omega), ?_⟩
     simp only [List.map_cons, List.map_nil, List.flatMap_cons, List.flatMap_nil, List.append_nil, Reps]
     refine ⟨f n, [], by simp, ?_, rfl⟩
     have hln : l[n] = (F ⟨n, by omega⟩).2 := by simp [l]
     have hfn : f n = (F ⟨n, by omega⟩).1 := by simp only [f]; rw [dif_pos (by omega)]
     rw [hln, hfn]; exact (hF ⟨n, by omega⟩).2.1
   have := hreps len (Nat.le_refl _)
   rwa [List.take_of_length_le (by omega)] at this
  ·have : l = [] := List.length_eq_zero_iff.1 (by omega)
   left; rw [this]; rfl
end
end Go.Proofs.YtoncnffdlejbaaaDoor

namespace Go.Proofs.YtoncnffdlejbaaaDoor
open Go Go.RowKit Go.ChangeShapes Go.WideShapes Go.ChangeAt
theorem co_u8 : Tryd.prog.cellsOf 5 = 1 := by kernel_rfl
section
set_option maxRecDepth 100000
variable {H : Type} {enc : TypeId × Value → H} {W : World} {base : Nat} {spare : Nat → Bool} {held : Bool}
theorem bk_all {l : List (DataW H)} : Rows.uptoBulkAll l = (l.map Rows.uptoBulk).sum := by
 induction l with
 | nil => rfl
 | cons x l ih => simp only [Rows.uptoBulkAll, List.map_cons, List.sum_cons, ih]
theorem bk_sl (es sp : List (DataW H)) : (es.map Rows.uptoBulk).sum + 1 ≤ Rows.uptoBulk (.slice es sp) := by
 simp only [Rows.uptoBulk, bk_all]; omega
theorem bk_int (k : IntKind) (n : Int) : 1 ≤ Rows.uptoBulk (H := H) (.lit (.int k n)) := by simp [Rows.uptoBulk]
theorem bk_nil : 1 ≤ Rows.uptoBulk (H := H) .nil := by simp [Rows.uptoBulk]
theorem ones_sum {α : Type} (l : List α) : (l.map fun _ => 1).sum = l.length := by
 induction l with
 | nil => rfl
 | cons x l ih => simp only [List.map_cons, List.sum_cons, List.length_cons, ih]; omega
theorem open_bytes {fuel : Nat} {cs : List Value} {x : DataW H × List MemPlace} (h : DataW.trod enc Tryd.prog W base spare held fuel 22 cs = some x) :
  ∃ (s : List UInt8) (v : Value), cs = [v] ∧ s.length ≤ maxLen ∧ Sq W.heap.size W v (s.map byteD) ∧ s.length + 1 ≤ Rows.uptoBulk x.1 := by
 obtain ⟨l, v, h1, h2, h3, _, h5⟩ := open_sq (e := 5) (sz := 1) Tryd.underlying22 co_u8 (by omega) byteD (fun _ => True) (fun _ => 1) Rows.uptoBulk bk_nil bk_sl h (fun n cs' x' _ hx => by
  obtain ⟨m, rfl, hxe, hw⟩ := DataW.trod_int Tryd.underlying5 hx
  have hm : 0 ≤ m ∧ m ≤ 255 := by simpa [Lit.wf, IntKind.min, IntKind.max, IntKind.signed, IntKind.bits] using hw
  refine ⟨UInt8.ofNat m.toNat, ?_, trivial, by rw [hxe]; exact bk_int _ _⟩
  simp only [byteD, Rep]
  rw [byteNat _ (by omega)]
  congr 2
  omega)
 rw [ones_sum] at h5
 exact ⟨l, v, h1, h2, h3, h5⟩
end
end Go.Proofs.YtoncnffdlejbaaaDoor

namespace Go.Proofs.YtoncnffdlejbaaaDoor.BUpdateRaftVoterResponse
open Go Go.RowKit Go.ChangeShapes Go.WideShapes Go.ChangeAt
theorem own : ownKnob Tryd.prog.godebug = none := by kernel_rfl
theorem laidOut : laidOutB Tryd.prog = true := by kernel_rfl
theorem gErr : Tryd.prog.globalNamed "pub-mailsack/pub/kmsg/inner/kbin.ErrNotEnoughData" = some 1 := by kernel_rfl
theorem gErrT : (Tryd.prog.globals[(1 : Nat)]?).map (·.type) = some 44 := by kernel_rfl
theorem err_of_laid {W : World} (h : laidMetH Tryd.prog Rows.fnUnsafeUpdateRaftVoterResponseRow.laid W) : ∃ u x, W.cell? ⟨1, 0, none⟩ = some (.iface u x) := by
  have h' : laidMet Tryd.prog Rows.fnUnsafeUpdateRaftVoterResponseRow.laid W := h
  obtain ⟨ps, ⟨g0, t0, cs0, f0, p0, q0, hg0, ht0, hv0, hd0, _⟩, _⟩ := h'
  obtain rfl := Option.some.inj (gErr.symm.trans hg0)
  obtain rfl := Option.some.inj (gErrT.symm.trans ht0)
  obtain ⟨l0⟩ := cs0
  obtain ⟨fu, u, v, e, _, _⟩ := iface_of_trod Tryd.underlying44 hd0
  have e' : l0 = [.iface u v] := e
  subst e'
  exact ⟨_, _, by simpa using World.var?_cell hg0 hv0 0⟩
abbrev errText : ByteArray := ⟨#[114, 101, 115, 112, 111, 110, 115, 101, 32, 100, 105, 100, 32, 110, 111, 116, 32, 99, 111, 110, 116, 97, 105, 110, 32, 101, 110, 111, 117, 103, 104, 32, 100, 97, 116, 97, 32, 116, 111, 32, 98, 101, 32, 118, 97, 108, 105, 100]⟩
noncomputable def low : Nat := (World.holding Tryd.prog default ⟨#[], #[], []⟩).heap.size
noncomputable def laidWorld (os : Os) : World :=
  let w0 := World.holding Tryd.prog os ⟨#[.cells #[.string errText] 196], #[], []⟩
  { w0 with heap := w0.heap.modify 1 fun
      | .cells _ t frozen => .cells #[.iface 177 (.pointer (some ⟨low, 0, none⟩))] t frozen
      | o => o }
theorem laidWorld_met (os : Os) (args : Array Value) : laidMetH Tryd.prog Rows.fnUnsafeUpdateRaftVoterResponseRow.laid ((laidWorld os).forCall (fun _ _ => 0) ⟨#[], args, []⟩).memory :=
  show laidMet Tryd.prog Rows.fnUnsafeUpdateRaftVoterResponseRow.laid _ from laidMet_of_run' 8 (by kernel_rfl) (by kernel_rfl)
set_option maxRecDepth 100000 in
theorem lifted (os : Os) (started : os.Started) (H : Type) (enc : TypeId × Value → H) :
    ReturnsInHanded {} Tryd.checked os 6 .any (fun w args => (Rows.fnUnsafeUpdateRaftVoterResponseSpec.pre enc Tryd.prog Tryd.f6 [] false w args ∧ laidMetH Tryd.prog Rows.fnUnsafeUpdateRaftVoterResponseRow.laid w) ∧ sizedMet enc Tryd.prog Tryd.f6 (OpenSpec.ofChange Rows.fnUnsafeUpdateRaftVoterResponseSpec) false w args)
      (Rows.fnUnsafeUpdateRaftVoterResponseSpec.post enc Tryd.prog Tryd.f6 false true false false) := by
  refine returnsInHanded_of_change_and (C := Tryd.checked) (X := fun w _ => laidMetH Tryd.prog Rows.fnUnsafeUpdateRaftVoterResponseRow.laid w) (fun _ _ _ hh h => h.of_heap hh) own started (by kernel_rfl) Tryd.func6
    (ChangeSpec.witness_at (enc := enc) (C := Tryd.checked) (os := os) (X := fun w _ => laidMetH Tryd.prog Rows.fnUnsafeUpdateRaftVoterResponseRow.laid w) false (laidWorld os) #[.int .u8 0, .slice none 0 0] 8 rfl (by kernel_rfl) (by kernel_rfl) (by kernel_rfl) (by kernel_rfl) (by kernel_rfl) (laidWorld_met os _)) ?_
  intro W base args ds gs before hval0 hW _ _ hL _
  have hval : ∀ (j : Nat) t v, Tryd.f6.params[j]? = some t → args[j]? = some v → Value.okWide Tryd.prog W .any base t v := hval0
  have hW' := hW
  obtain ⟨p, q, hA0, hV, rfl, hfz, hnd⟩ := hW
  have hA : DataW.TrodAll enc Tryd.prog W 0 (fun _ => true) true Tryd.f6.params.toList args.toList ds p := hA0
  rw [Tryd.params6] at hA hval
  obtain ⟨v0, v1, d0, d1, p0, p1, rfl, rfl, rfl, h0, h1⟩ := trodAll_two hA
  obtain ⟨rfl, rfl⟩ := trodVars_none hV
  obtain ⟨a, rfl, rfl, rfl, wa⟩ := open_int Tryd.underlying5 (hval 0 5 v0 rfl rfl) h0
  obtain ⟨sa, sl, sc, rfl⟩ := okWide_slice Tryd.underlying22 (hval 1 22 v1 rfl rfl)
  obtain ⟨fuel1, hf1⟩ := id h1
  obtain ⟨xs, xv, hxv, _, hxs, _⟩ := open_bytes hf1
  have hxv' : Value.slice sa sl sc = xv := by
    have h : [Value.slice sa sl sc] = [xv] := hxv
    simpa using h
  subst hxv'
  obtain ⟨eu, ex, hev⟩ := err_of_laid hL
  clear hA0 hval0
  simp only [List.append_nil, List.nil_append] at hW'
  have ha : 0 ≤ a ∧ a ≤ 255 := by simpa [Lit.wf, IntKind.min, IntKind.max, IntKind.signed, IntKind.bits] using wa
  have hbx := hxs.bytes
  obtain ⟨sa2, sc2, hsh⟩ := hbx.shape
  simp only [Value.slice.injEq] at hsh
  obtain ⟨rfl, rfl, rfl⟩ := hsh
  have hlaw := fn_law a.toNat (by omega) W eu ex _ _ xs hbx hev
  rw [show ((a.toNat : Nat) : Int) = a from by omega] at hlaw
  refine Calls.mono hlaw fun e W' he => ?_
  obtain ⟨v, rfl, hb, rfl⟩ := he
  refine ⟨_, rfl, _, _, _, [], p1, [], hW', trodAll_mk1 (shut_bool Tryd.underlying4 _), ?_, ?_, hb.frame _, fun h => by cases h⟩
  · exact trodAll_mk2 (shut_int Tryd.underlying5 wa) (Below.trod laidOut (by kernel_rfl) (Nat.le_of_ble_eq_true (by kernel_rfl)) h1 hb (fun x hx => hW'.lt x hx))
  · rfl
theorem said : Rows.FnUnsafeUpdateRaftVoterResponseSaid :=
  OpenClaim.holds_of_wide 6 Tryd.f6 rfl rfl rfl rfl rfl rfl rfl ⟨rfl, rfl, rfl, rfl, rfl⟩ rfl rfl rfl rfl rfl (by kernel_rfl) Tryd.func6 (by kernel_rfl)
    (of_decide_eq_true (by kernel_rfl)) (by unfold Func.isWrapper; first | (rw [if_pos (by decide +kernel)]; kernel_rfl) | (rw [if_neg (by decide +kernel)]; exact ⟨rfl, rfl⟩))
    (fun os started H enc _ => lifted os started H enc)
theorem row_tie : Rows.fnUnsafeUpdateRaftVoterResponseRow.laidByTextAt .later Tryd.pinned [.sentinel] true :=
  OpenClaim.laidByTextAt_later rfl rfl tie (by kernel_rfl)
theorem holds : Rows.FnUnsafeUpdateRaftVoterResponseCardSaid :=
  Claim7.holds_tied_plain_at .later [] [.sentinel] true (true, "25f9f3d8ae9b790299d0369a9fa50ef57f9f026c8db833daaa54ac5cc3f8f226") false
    said (fun _ h => by cases h) (by kernel_rfl) (fun _ h => by cases h) row_tie rfl ⟨rfl, rfl⟩ (by kernel_rfl) rfl
    (fun f fn hf hfn => by
      obtain rfl : f = 6 := Option.some.inj ((show Tryd.prog.funcNamed "pub-mailsack/laws.FnUnsafeUpdateRaftVoterResponse" = some 6 by kernel_rfl).symm.trans hf) |>.symm
      obtain rfl : fn = Tryd.f6 := (Option.some.inj (Tryd.func6.symm.trans hfn)).symm
      exact ⟨by kernel_rfl, fun j t ht => by
        rw [Tryd.params6] at ht
        have hh : Tryd.prog.wantsStandIn 5 = false ∧ Tryd.prog.wantsStandIn 22 = false := ⟨by kernel_rfl, by kernel_rfl⟩
        match j, ht with
        | 0, ht => obtain rfl : 5 = t := by simpa using ht
                   exact hh.1
        | 1, ht => obtain rfl : 22 = t := by simpa using ht
                   exact hh.2
        | j + 2, ht => simp at ht⟩)
    (by kernel_rfl)
end Go.Proofs.YtoncnffdlejbaaaDoor.BUpdateRaftVoterResponse
