/- FnFrameCreateTopicsRequest: the row, and its card, its one listed variable tied to the program's text (the tie is given). Conditions: those of the row, no Xs. -/
import Derived.Test.YtmihblfjhoblmaaGreatDoorPartF
import Derived.Test.YtmihblfjhoblmaaGreatDoorPartA
import Derived.ProofKit
import Derived.OpenShut
import Derived.Test.YtmihblfjhoblmaaGreatDoorPartC
import Derived.Test.YtmihblfjhoblmaaGreatDoorPartD
import Derived.Test.YtmihblfjhoblmaaGreatDoorRows
import Derived.Test.YtmihblfjhoblmaaGreatDoorCards
import Derived.Test.YtmihblfjhoblmaaGreatDoorTie
import Derived.ChangeSame
import Derived.ChangeVars
import Derived.JoinedOf
import Derived.RowKit
import Derived.RowKitTokens
import Derived.Carry
import Derived.ChangeArms
import Derived.LaidLaws
import Derived.LaidHandle
import Derived.Stop.Joined
import Derived.SevenTiedAt
import Derived.Deep.DeepHandedRow
import Derived.Deep.DeepWitnessRowRef
set_option linter.all false
/- A request Uj: the formatter with or Uz a client's name. -/
namespace Go.Proofs.YtmihblfjhoblmaaGreatDoor.Frm
open Go Go.RowKit

theorem Req.later {T b : Nat} {key ver : Int} {flex : Bool} {wire : List UInt8} {w0 w1 : World} (R : Req T b key ver flex wire w0) (h : Below w0.heap.size w0 w1) : Req T b key ver flex wire w1 := by
  have hz := h.size
  have go : ∀ w, Below w1.heap.size w1 w → Below w0.heap.size w0 w := fun w hb => h.trans (hb.mono hz)
  obtain ⟨fk, mk, ik, ck⟩ := R.k
  obtain ⟨fv, mv, iv, cv⟩ := R.v
  obtain ⟨fi, mi, ii, ci⟩ := R.i
  obtain ⟨fa, ma, ia, ca⟩ := R.a
  exact ⟨⟨fk, mk, ik, fun w hb => ck w (go w hb)⟩, ⟨fv, mv, iv, fun w hb => cv w (go w hb)⟩, ⟨fi, mi, ii, fun w hb => ci w (go w hb)⟩, ⟨fa, ma, ia, fun w d xs B hb hB => ca w d xs B (go w hb) (by omega)⟩⟩
section
set_option maxRecDepth 100000
set_option maxHeartbeats 2000000
theorem fn_flexible (m : Msg) (ver : Int) (fv : Value) (w : World) : Fn 13 [.agg #[fv, .int .i64 m.flex], .int .i64 ver] w fun v _ => v = .bool (m.flexible ver) := by
  refine enter Tryz.func13 rfl Tryz.ntmps13 rfl ?_
  refine Yk (Yd (Xt (cs := [fv, .int .i64 m.flex]) rfl rfl rfl (fun w1 hb1 hg1 hs1 => ?_)))
  have hw1 : Below w.heap.size w w1 := Yx hg1 (Nat.le_refl _) (by simp)
  repeat first|(with_reducible first|apply Yk|apply Yd|apply Ym|apply Yj|apply Yh|apply Yi|apply Yn|apply Yl|apply Ye|apply Yg|apply Yr|apply Yc|apply Yf|apply Yb|apply Ya)|((with_reducible apply ws);exact rfl;exact rfl)|((with_reducible apply Yo);exact rfl;exact rfl;exact rfl)|((with_reducible apply Yq);exact rfl;exact rfl;exact rfl;exact rfl)|((with_reducible apply Yp);exact rfl;exact rfl;exact rfl)
  refine Yv (i := 1) rfl to_int rfl hb1 rfl ?_
  repeat first|(with_reducible first|apply Yk|apply Yd|apply Ym|apply Yj|apply Yh|apply Yi|apply Yn|apply Yl|apply Ye|apply Yg|apply Yr|apply Yc|apply Yf|apply Yb|apply Ya)|((with_reducible apply ws);exact rfl;exact rfl)|((with_reducible apply Yo);exact rfl;exact rfl;exact rfl)|((with_reducible apply Yq);exact rfl;exact rfl;exact rfl;exact rfl)|((with_reducible apply Yp);exact rfl;exact rfl;exact rfl)
  by_cases h0 : (0 : Int) ≤ m.flex
  · rw [show decide ((0 : Int) ≤ m.flex) = true from decide_eq_true h0]
    repeat first|(with_reducible first|apply Yk|apply Yd|apply Ym|apply Yj|apply Yh|apply Yi|apply Yn|apply Yl|apply Ye|apply Yg|apply Yr|apply Yc|apply Yf|apply Yb|apply Ya)|((with_reducible apply ws);exact rfl;exact rfl)|((with_reducible apply Yo);exact rfl;exact rfl;exact rfl)|((with_reducible apply Yq);exact rfl;exact rfl;exact rfl;exact rfl)|((with_reducible apply Yp);exact rfl;exact rfl;exact rfl)
    refine Yv (i := 1) rfl to_int rfl hb1 rfl ?_
    repeat first|(with_reducible first|apply Yk|apply Yd|apply Ym|apply Yj|apply Yh|apply Yi|apply Yn|apply Yl|apply Ye|apply Yg|apply Yr|apply Yc|apply Yf|apply Yb|apply Ya)|((with_reducible apply ws);exact rfl;exact rfl)|((with_reducible apply Yo);exact rfl;exact rfl;exact rfl)|((with_reducible apply Yq);exact rfl;exact rfl;exact rfl;exact rfl)|((with_reducible apply Yp);exact rfl;exact rfl;exact rfl)
    refine Yt rfl rfl ⟨_, rfl, hw1, ?_⟩
    simp [Msg.flexible, h0]
  · rw [show decide ((0 : Int) ≤ m.flex) = false from decide_eq_false h0]
    repeat first|(with_reducible first|apply Yk|apply Yd|apply Ym|apply Yj|apply Yh|apply Yi|apply Yn|apply Yl|apply Ye|apply Yg|apply Yr|apply Yc|apply Yf|apply Yb|apply Ya)|((with_reducible apply ws);exact rfl;exact rfl)|((with_reducible apply Yo);exact rfl;exact rfl;exact rfl)|((with_reducible apply Yq);exact rfl;exact rfl;exact rfl;exact rfl)|((with_reducible apply Yp);exact rfl;exact rfl;exact rfl)
    refine Yt rfl rfl ⟨_, rfl, hw1, ?_⟩
    simp [Msg.flexible, h0]
theorem fn_framed (T b : Nat) (key ver number : Int) (flex : Bool) (wire : List UInt8) (has : Bool) (id : ByteArray) (w : World) (R : Req T b key ver flex wire w) (h7 : key ≠ 7) (hid : id.size ≤ 32767) (hl : 1000000 + wire.length ≤ lim) :
    Calls Tryz.prog 21 #[.agg #[.bool has, .string id], .iface T (.pointer (some ⟨b, 0, none⟩)), .int .i32 number] w fun e w' => ∃ d', e = .returned d' ∧ Own w' w.heap.size 5 d' (Uj key ver number has (Yd3 id) flex wire) ∧ Below w.heap.size w w' := by
  refine enter (vs := [.agg #[.bool has, .string id], .iface T (.pointer (some ⟨b, 0, none⟩)), .int .i32 number]) Tryz.func21 rfl Tryz.ntmps21 rfl ?_
  refine Yk (Yd (Xt (cs := [.bool has, .string id]) rfl rfl rfl (fun w1 hb1 hg1 hs1 => ?_)))
  have hw1 : Below w.heap.size w w1 := Yx hg1 (Nat.le_refl _) (by simp)
  have hz1 := hw1.size
  repeat first|(with_reducible first|apply Yk|apply Yd|apply Ym|apply Yj|apply Yh|apply Yi|apply Yn|apply Yl|apply Ye|apply Yg|apply Yr|apply Yc|apply Yf|apply Yb|apply Ya)|((with_reducible apply ws);exact rfl;exact rfl)|((with_reducible apply Yo);exact rfl;exact rfl;exact rfl)|((with_reducible apply Yq);exact rfl;exact rfl;exact rfl;exact rfl)|((with_reducible apply Yp);exact rfl;exact rfl;exact rfl)
  refine Yu rfl (by kernel_rfl) rfl ((fn_fmt0 w1).mono ?_)
  rintro e w2 ⟨fb, rfl, hf2, hw12⟩
  refine ⟨_, rfl, ?_⟩
  have hw2 := hw1.trans (hw12.mono (by omega))
  have hz2 := hw2.size
  have hb2 := hb1.below hw12 hb1.lt
  repeat first|(with_reducible first|apply Yk|apply Yd|apply Ym|apply Yj|apply Yh|apply Yi|apply Yn|apply Yl|apply Ye|apply Yg|apply Yr|apply Yc|apply Yf|apply Yb|apply Ya)|((with_reducible apply ws);exact rfl;exact rfl)|((with_reducible apply Yo);exact rfl;exact rfl;exact rfl)|((with_reducible apply Yq);exact rfl;exact rfl;exact rfl;exact rfl)|((with_reducible apply Yp);exact rfl;exact rfl;exact rfl)
  refine XJ rfl (show YY Tryz.prog 23 0 = some 0 by kernel_rfl) rfl ?_
  refine Yv (i := 0) rfl to_bool rfl hb2 rfl ?_
  repeat first|(with_reducible first|apply Yk|apply Yd|apply Ym|apply Yj|apply Yh|apply Yi|apply Yn|apply Yl|apply Ye|apply Yg|apply Yr|apply Yc|apply Yf|apply Yb|apply Ya)|((with_reducible apply ws);exact rfl;exact rfl)|((with_reducible apply Yo);exact rfl;exact rfl;exact rfl)|((with_reducible apply Yq);exact rfl;exact rfl;exact rfl;exact rfl)|((with_reducible apply Yp);exact rfl;exact rfl;exact rfl)
  cases has
  · refine YE rfl rfl ?_
    repeat first|(with_reducible first|apply Yk|apply Yd|apply Ym|apply Yj|apply Yh|apply Yi|apply Yn|apply Yl|apply Ye|apply Yg|apply Yr|apply Yc|apply Yf|apply Yb|apply Ya)|((with_reducible apply ws);exact rfl;exact rfl)|((with_reducible apply Yo);exact rfl;exact rfl;exact rfl)|((with_reducible apply Yq);exact rfl;exact rfl;exact rfl;exact rfl)|((with_reducible apply Yp);exact rfl;exact rfl;exact rfl)
    refine Yu rfl (by kernel_rfl) rfl ((fn_apreq T b key ver number flex wire w2 fb none (R.later hw2) h7 hf2 (fun s h => by cases h) hl).mono ?_)
    rintro e w3 ⟨d3, rfl, ho3, hw23⟩
    refine ⟨_, rfl, ?_⟩
    repeat first|(with_reducible first|apply Yk|apply Yd|apply Ym|apply Yj|apply Yh|apply Yi|apply Yn|apply Yl|apply Ye|apply Yg|apply Yr|apply Yc|apply Yf|apply Yb|apply Ya)|((with_reducible apply ws);exact rfl;exact rfl)|((with_reducible apply Yo);exact rfl;exact rfl;exact rfl)|((with_reducible apply Yq);exact rfl;exact rfl;exact rfl;exact rfl)|((with_reducible apply Yp);exact rfl;exact rfl;exact rfl)
    refine Yt rfl rfl ⟨_, rfl, ?_, hw2.trans (hw23.mono (by omega))⟩
    have := ho3.mono (B' := w.heap.size) (by omega)
    simpa only [Uj, Vt, Option.isSome_none, cond_false] using this
  · refine Yz rfl rfl ?_
    repeat first|(with_reducible first|apply Yk|apply Yd|apply Ym|apply Yj|apply Yh|apply Yi|apply Yn|apply Yl|apply Ye|apply Yg|apply Yr|apply Yc|apply Yf|apply Yb|apply Ya)|((with_reducible apply ws);exact rfl;exact rfl)|((with_reducible apply Yo);exact rfl;exact rfl;exact rfl)|((with_reducible apply Yq);exact rfl;exact rfl;exact rfl;exact rfl)|((with_reducible apply Yp);exact rfl;exact rfl;exact rfl)
    refine XJ rfl (show YY Tryz.prog 23 1 = some 1 by kernel_rfl) rfl ?_
    refine Yv (i := 1) rfl to_str rfl hb2 rfl ?_
    refine Yu rfl (by kernel_rfl) rfl ((fn_client id w2).mono ?_)
    rintro e w3 ⟨rfl, hb3, hw23⟩
    refine ⟨_, rfl, ?_⟩
    have hz3 := hw23.size
    have hw3 := hw2.trans (hw23.mono (by omega))
    refine wl_slice1 (e := 83) (sz := 1) (by kernel_rfl) rfl rfl rfl rfl rfl (fun w4 hb4 hg4 hs4 => ?_)
    have hw34 : Below w3.heap.size w3 w4 := Yx hg4 (Nat.le_refl _) (by simp)
    have hw4 := hw3.trans (hw34.mono (by omega))
    have hz4 := hw4.size
    refine Yu rfl (by kernel_rfl) rfl ((fn_fmt1 id w4 w3.heap.size w2.heap.size hb4 (hb3.below hw34 hb3.lt)).mono ?_)
    rintro e w5 ⟨fb5, rfl, hf5, hw45⟩
    refine ⟨_, rfl, ?_⟩
    have hw5 := hw4.trans (hw45.mono (by omega))
    have hz5 := hw5.size
    repeat first|(with_reducible first|apply Yk|apply Yd|apply Ym|apply Yj|apply Yh|apply Yi|apply Yn|apply Yl|apply Ye|apply Yg|apply Yr|apply Yc|apply Yf|apply Yb|apply Ya)|((with_reducible apply ws);exact rfl;exact rfl)|((with_reducible apply Yo);exact rfl;exact rfl;exact rfl)|((with_reducible apply Yq);exact rfl;exact rfl;exact rfl;exact rfl)|((with_reducible apply Yp);exact rfl;exact rfl;exact rfl)
    refine Yu rfl (by kernel_rfl) rfl ((fn_apreq T b key ver number flex wire w5 fb5 (some id) (R.later hw5) h7 hf5 (fun s h => by cases h; exact hid) hl).mono ?_)
    rintro e w6 ⟨d6, rfl, ho6, hw56⟩
    refine ⟨_, rfl, ?_⟩
    repeat first|(with_reducible first|apply Yk|apply Yd|apply Ym|apply Yj|apply Yh|apply Yi|apply Yn|apply Yl|apply Ye|apply Yg|apply Yr|apply Yc|apply Yf|apply Yb|apply Ya)|((with_reducible apply ws);exact rfl;exact rfl)|((with_reducible apply Yo);exact rfl;exact rfl;exact rfl)|((with_reducible apply Yq);exact rfl;exact rfl;exact rfl;exact rfl)|((with_reducible apply Yp);exact rfl;exact rfl;exact rfl)
    exact Yt rfl rfl ⟨_, rfl, ho6.mono (by omega), hw5.trans (hw56.mono (by omega))⟩
end
end Go.Proofs.YtmihblfjhoblmaaGreatDoor.Frm

/- What a CreateTopicsRequest comes to: its table, a new one, how it is read and written; and the law: as a request it follows its head. -/
namespace Go.Proofs.YtmihblfjhoblmaaGreatDoor.BCreateTopicsRequest
open Go Go.RowKit

def sCreateTopicsRequestTopicReplicaAssignment : List Fld := [.mk 3 0 (-1) (-1) (-1) 0 0 [], .mk 11 0 (-1) (-1) (-1) 0 3 []]
def sCreateTopicsRequestTopicConfig : List Fld := [.mk 8 0 (-1) (-1) (-1) 0 0 [], .mk 8 0 (-1) 0 (-1) 0 0 []]
def sCreateTopicsRequestTopic : List Fld := [.mk 8 0 (-1) (-1) (-1) 0 0 [], .mk 3 0 (-1) (-1) (-1) 0 0 [], .mk 2 0 (-1) (-1) (-1) 0 0 [], .mk 11 0 (-1) (-1) (-1) 0 10 sCreateTopicsRequestTopicReplicaAssignment, .mk 11 0 (-1) (-1) (-1) 0 10 sCreateTopicsRequestTopicConfig]
def m : Msg := ⟨[.mk 11 0 (-1) (-1) (-1) 0 10 sCreateTopicsRequestTopic, .mk 3 0 (-1) (-1) (-1) 60000 0 [], .mk 0 1 (-1) (-1) (-1) 0 0 []], 5⟩
theorem m_ok : Yb7 m.fields = true := by decide
def most : Nat := 7
def tbl : Tbl := ⟨[(34, 0, 0), (34, 1, 1), (68, 0, 0)], [24]⟩
theorem tbl_ok : tbl.ok Tryz.prog = true := by kernel_rfl
theorem ws {ops : Array Oper} {Q : Exit → Act → World → Prop} {N : Nat} {rest : List Oper} {L : Sl} {w : World} {d : Nat} {ty : TypeId} {pos : String} {aft : Array Edge} {o : Op} {v : Value}
    (hs : Yl4 tbl L o = some v) (hd : Nat.blt d N = true) (h : WL rest Tryz.prog ops Q N ((d, v) :: L) w) : WL (⟨some d, o, ty, pos, aft, none⟩ :: rest) Tryz.prog ops Q N L w := wl_step tbl tbl_ok hs hd h
theorem zv_msg (w : World) : (zeroValue 34).run Tryz.prog w = .ok (.agg #[.slice none 0 0, .int .i64 0]) w := by kernel_rfl
theorem rt_flds : Yc1 Tryz.prog 32 51 8 = true := by kernel_rfl
theorem to_i16 : XS Tryz.prog 45 = true := by kernel_rfl
section
set_option maxRecDepth 100000
set_option maxHeartbeats 4000000
theorem XD (w : World) : Fn 25 [] w fun v w' => Rep (Frs w.heap.size w'.heap.size) w' (.sq (sCreateTopicsRequestTopicReplicaAssignment.map fldD)) [v] := by
  refine enter Tryz.func25 rfl Tryz.ntmps25 rfl ?_
  repeat first|(with_reducible first|apply Yk|apply Yd|apply Ym|apply Yj|apply Yh|apply Yi|apply Yn|apply Yl|apply Ye|apply Yg|apply Yr|apply Yc|apply Yf|apply Yb|apply Ya)|((with_reducible apply ws);exact rfl;exact rfl)|((with_reducible apply Yo);exact rfl;exact rfl;exact rfl)|((with_reducible apply Yq);exact rfl;exact rfl;exact rfl;exact rfl)|((with_reducible apply Yp);exact rfl;exact rfl;exact rfl)
  have hW : Below w.heap.size w w := ⟨rfl, rfl, rfl, Nat.le_refl _, fun _ _ => rfl⟩
  refine XF rfl (cs := [.int .i64 3, .int .i64 0, .int .i64 (-1), .int .i64 (-1), .int .i64 (-1), .int .i64 0, .int .i64 0, .slice none 0 0]) (by kernel_rfl) rfl ?_
  refine XF rfl (cs := [.int .i64 11, .int .i64 0, .int .i64 (-1), .int .i64 (-1), .int .i64 (-1), .int .i64 0, .int .i64 3, .slice none 0 0]) (by kernel_rfl) rfl ?_
  refine JW [[.int .i64 3, .int .i64 0, .int .i64 (-1), .int .i64 (-1), .int .i64 (-1), .int .i64 0, .int .i64 0, .slice none 0 0], [.int .i64 11, .int .i64 0, .int .i64 (-1), .int .i64 (-1), .int .i64 (-1), .int .i64 0, .int .i64 3, .slice none 0 0]] rt_flds rfl rfl (by simp) rfl rfl rfl (fun w2 hbS hgS hsS => ?_)
  have hs_2 := Yx hgS (Nat.le_refl _) (by simp)
  have hz := hW.size
  replace hW := hW.trans (hs_2.mono hW.size)
  have hfin : Rep (Frs w.heap.size w2.heap.size) w2 (.sq (sCreateTopicsRequestTopicReplicaAssignment.map fldD)) [.slice (some ⟨w.heap.size, 0, none⟩) 2 2] := by
    simp only [Rep]
    exact ⟨_, 2, rfl, Nat.le_refl _, .inr ⟨w.heap.size, 0, _, rfl, ⟨hz, hbS.lt⟩, hbS.cells, (Xz (VR _ _ (.mk 3 0 (-1) (-1) (-1) 0 0 []) rfl) (Xz (VR _ _ (.mk 11 0 (-1) (-1) (-1) 0 3 []) rfl) JV))⟩⟩
  repeat first|(with_reducible first|apply Yk|apply Yd|apply Ym|apply Yj|apply Yh|apply Yi|apply Yn|apply Yl|apply Ye|apply Yg|apply Yr|apply Yc|apply Yf|apply Yb|apply Ya)|((with_reducible apply ws);exact rfl;exact rfl)|((with_reducible apply Yo);exact rfl;exact rfl;exact rfl)|((with_reducible apply Yq);exact rfl;exact rfl;exact rfl;exact rfl)|((with_reducible apply Yp);exact rfl;exact rfl;exact rfl)
  exact Yt rfl rfl ⟨_, rfl, hW, hfin⟩
theorem Vm (w : World) : Fn 26 [] w fun v w' => Rep (Frs w.heap.size w'.heap.size) w' (.sq (sCreateTopicsRequestTopicConfig.map fldD)) [v] := by
  refine enter Tryz.func26 rfl Tryz.ntmps26 rfl ?_
  repeat first|(with_reducible first|apply Yk|apply Yd|apply Ym|apply Yj|apply Yh|apply Yi|apply Yn|apply Yl|apply Ye|apply Yg|apply Yr|apply Yc|apply Yf|apply Yb|apply Ya)|((with_reducible apply ws);exact rfl;exact rfl)|((with_reducible apply Yo);exact rfl;exact rfl;exact rfl)|((with_reducible apply Yq);exact rfl;exact rfl;exact rfl;exact rfl)|((with_reducible apply Yp);exact rfl;exact rfl;exact rfl)
  have hW : Below w.heap.size w w := ⟨rfl, rfl, rfl, Nat.le_refl _, fun _ _ => rfl⟩
  refine XF rfl (cs := [.int .i64 8, .int .i64 0, .int .i64 (-1), .int .i64 (-1), .int .i64 (-1), .int .i64 0, .int .i64 0, .slice none 0 0]) (by kernel_rfl) rfl ?_
  refine XF rfl (cs := [.int .i64 8, .int .i64 0, .int .i64 (-1), .int .i64 0, .int .i64 (-1), .int .i64 0, .int .i64 0, .slice none 0 0]) (by kernel_rfl) rfl ?_
  refine JW [[.int .i64 8, .int .i64 0, .int .i64 (-1), .int .i64 (-1), .int .i64 (-1), .int .i64 0, .int .i64 0, .slice none 0 0], [.int .i64 8, .int .i64 0, .int .i64 (-1), .int .i64 0, .int .i64 (-1), .int .i64 0, .int .i64 0, .slice none 0 0]] rt_flds rfl rfl (by simp) rfl rfl rfl (fun w2 hbS hgS hsS => ?_)
  have hs_2 := Yx hgS (Nat.le_refl _) (by simp)
  have hz := hW.size
  replace hW := hW.trans (hs_2.mono hW.size)
  have hfin : Rep (Frs w.heap.size w2.heap.size) w2 (.sq (sCreateTopicsRequestTopicConfig.map fldD)) [.slice (some ⟨w.heap.size, 0, none⟩) 2 2] := by
    simp only [Rep]
    exact ⟨_, 2, rfl, Nat.le_refl _, .inr ⟨w.heap.size, 0, _, rfl, ⟨hz, hbS.lt⟩, hbS.cells, (Xz (VR _ _ (.mk 8 0 (-1) (-1) (-1) 0 0 []) rfl) (Xz (VR _ _ (.mk 8 0 (-1) 0 (-1) 0 0 []) rfl) JV))⟩⟩
  repeat first|(with_reducible first|apply Yk|apply Yd|apply Ym|apply Yj|apply Yh|apply Yi|apply Yn|apply Yl|apply Ye|apply Yg|apply Yr|apply Yc|apply Yf|apply Yb|apply Ya)|((with_reducible apply ws);exact rfl;exact rfl)|((with_reducible apply Yo);exact rfl;exact rfl;exact rfl)|((with_reducible apply Yq);exact rfl;exact rfl;exact rfl;exact rfl)|((with_reducible apply Yp);exact rfl;exact rfl;exact rfl)
  exact Yt rfl rfl ⟨_, rfl, hW, hfin⟩
theorem VN (w : World) : Fn 17 [] w fun v w' => Rep (Frs w.heap.size w'.heap.size) w' (.sq (sCreateTopicsRequestTopic.map fldD)) [v] := by
  refine enter Tryz.func17 rfl Tryz.ntmps17 rfl ?_
  repeat first|(with_reducible first|apply Yk|apply Yd|apply Ym|apply Yj|apply Yh|apply Yi|apply Yn|apply Yl|apply Ye|apply Yg|apply Yr|apply Yc|apply Yf|apply Yb|apply Ya)|((with_reducible apply ws);exact rfl;exact rfl)|((with_reducible apply Yo);exact rfl;exact rfl;exact rfl)|((with_reducible apply Yq);exact rfl;exact rfl;exact rfl;exact rfl)|((with_reducible apply Yp);exact rfl;exact rfl;exact rfl)
  have hW : Below w.heap.size w w := ⟨rfl, rfl, rfl, Nat.le_refl _, fun _ _ => rfl⟩
  refine XF rfl (cs := [.int .i64 8, .int .i64 0, .int .i64 (-1), .int .i64 (-1), .int .i64 (-1), .int .i64 0, .int .i64 0, .slice none 0 0]) (by kernel_rfl) rfl ?_
  refine XF rfl (cs := [.int .i64 3, .int .i64 0, .int .i64 (-1), .int .i64 (-1), .int .i64 (-1), .int .i64 0, .int .i64 0, .slice none 0 0]) (by kernel_rfl) rfl ?_
  refine XF rfl (cs := [.int .i64 2, .int .i64 0, .int .i64 (-1), .int .i64 (-1), .int .i64 (-1), .int .i64 0, .int .i64 0, .slice none 0 0]) (by kernel_rfl) rfl ?_
  refine Yu rfl (by kernel_rfl) rfl ((XD w).mono ?_)
  rintro e w2 ⟨sv, rfl, hs_2, hsq3⟩
  obtain ⟨a3, c3, rfl⟩ := Jm hsq3
  refine ⟨_, rfl, ?_⟩
  replace hsq3 := rep_frw hsq3 hW.size
  replace hW := hW.trans (hs_2.mono hW.size)
  refine XF rfl (cs := [.int .i64 11, .int .i64 0, .int .i64 (-1), .int .i64 (-1), .int .i64 (-1), .int .i64 0, .int .i64 10, .slice a3 (sCreateTopicsRequestTopicReplicaAssignment.map fldD).length c3]) (by kernel_rfl) rfl ?_
  refine Yu rfl (by kernel_rfl) rfl ((Vm w2).mono ?_)
  rintro e w3 ⟨sv, rfl, hs_3, hsq4⟩
  obtain ⟨a4, c4, rfl⟩ := Jm hsq4
  refine ⟨_, rfl, ?_⟩
  replace hsq4 := rep_frw hsq4 hW.size
  replace hsq3 := rep_fr hsq3 hs_3 (Nat.le_refl _)
  replace hW := hW.trans (hs_3.mono hW.size)
  refine XF rfl (cs := [.int .i64 11, .int .i64 0, .int .i64 (-1), .int .i64 (-1), .int .i64 (-1), .int .i64 0, .int .i64 10, .slice a4 (sCreateTopicsRequestTopicConfig.map fldD).length c4]) (by kernel_rfl) rfl ?_
  refine JW [[.int .i64 8, .int .i64 0, .int .i64 (-1), .int .i64 (-1), .int .i64 (-1), .int .i64 0, .int .i64 0, .slice none 0 0], [.int .i64 3, .int .i64 0, .int .i64 (-1), .int .i64 (-1), .int .i64 (-1), .int .i64 0, .int .i64 0, .slice none 0 0], [.int .i64 2, .int .i64 0, .int .i64 (-1), .int .i64 (-1), .int .i64 (-1), .int .i64 0, .int .i64 0, .slice none 0 0], [.int .i64 11, .int .i64 0, .int .i64 (-1), .int .i64 (-1), .int .i64 (-1), .int .i64 0, .int .i64 10, .slice a3 (sCreateTopicsRequestTopicReplicaAssignment.map fldD).length c3], [.int .i64 11, .int .i64 0, .int .i64 (-1), .int .i64 (-1), .int .i64 (-1), .int .i64 0, .int .i64 10, .slice a4 (sCreateTopicsRequestTopicConfig.map fldD).length c4]] rt_flds rfl rfl (by simp) rfl rfl rfl (fun w4 hbS hgS hsS => ?_)
  have hs_4 := Yx hgS (Nat.le_refl _) (by simp)
  have hz := hW.size
  replace hsq3 := rep_fr hsq3 hs_4 (Nat.le_refl _)
  replace hsq4 := rep_fr hsq4 hs_4 (Nat.le_refl _)
  replace hW := hW.trans (hs_4.mono hW.size)
  have hfin : Rep (Frs w.heap.size w4.heap.size) w4 (.sq (sCreateTopicsRequestTopic.map fldD)) [.slice (some ⟨w3.heap.size, 0, none⟩) 5 5] := by
    simp only [Rep]
    exact ⟨_, 5, rfl, Nat.le_refl _, .inr ⟨w3.heap.size, 0, _, rfl, ⟨hz, hbS.lt⟩, hbS.cells, (Xz (VR _ _ (.mk 8 0 (-1) (-1) (-1) 0 0 []) rfl) (Xz (VR _ _ (.mk 3 0 (-1) (-1) (-1) 0 0 []) rfl) (Xz (VR _ _ (.mk 2 0 (-1) (-1) (-1) 0 0 []) rfl) (Xz (rep_fldS hsq3) (Xz (rep_fldS hsq4) JV)))))⟩⟩
  repeat first|(with_reducible first|apply Yk|apply Yd|apply Ym|apply Yj|apply Yh|apply Yi|apply Yn|apply Yl|apply Ye|apply Yg|apply Yr|apply Yc|apply Yf|apply Yb|apply Ya)|((with_reducible apply ws);exact rfl;exact rfl)|((with_reducible apply Yo);exact rfl;exact rfl;exact rfl)|((with_reducible apply Yq);exact rfl;exact rfl;exact rfl;exact rfl)|((with_reducible apply Yp);exact rfl;exact rfl;exact rfl)
  exact Yt rfl rfl ⟨_, rfl, hW, hfin⟩
theorem fn_table (w : World) : Fn 7 [] w fun v w' => ∃ fv, v = .agg #[fv, .int .i64 m.flex] ∧ Sq w'.heap.size w' fv (m.fields.map fldD) := by
  refine enter Tryz.func7 rfl Tryz.ntmps7 rfl ?_
  repeat first|(with_reducible first|apply Yk|apply Yd|apply Ym|apply Yj|apply Yh|apply Yi|apply Yn|apply Yl|apply Ye|apply Yg|apply Yr|apply Yc|apply Yf|apply Yb|apply Ya)|((with_reducible apply ws);exact rfl;exact rfl)|((with_reducible apply Yo);exact rfl;exact rfl;exact rfl)|((with_reducible apply Yq);exact rfl;exact rfl;exact rfl;exact rfl)|((with_reducible apply Yp);exact rfl;exact rfl;exact rfl)
  refine Xu zv_msg rfl rfl (fun w1 hb1 hg1 hs1 => ?_)
  have hs_1 := Yx hg1 (Nat.le_refl _) (by simp)
  repeat first|(with_reducible first|apply Yk|apply Yd|apply Ym|apply Yj|apply Yh|apply Yi|apply Yn|apply Yl|apply Ye|apply Yg|apply Yr|apply Yc|apply Yf|apply Yb|apply Ya)|((with_reducible apply ws);exact rfl;exact rfl)|((with_reducible apply Yo);exact rfl;exact rfl;exact rfl)|((with_reducible apply Yq);exact rfl;exact rfl;exact rfl;exact rfl)|((with_reducible apply Yp);exact rfl;exact rfl;exact rfl)
  have hW : Below w1.heap.size w1 w1 := ⟨rfl, rfl, rfl, Nat.le_refl _, fun _ _ => rfl⟩
  refine Yu rfl (by kernel_rfl) rfl ((VN w1).mono ?_)
  rintro e w2 ⟨sv, rfl, hs_2, hsq0⟩
  obtain ⟨a0, c0, rfl⟩ := Jm hsq0
  refine ⟨_, rfl, ?_⟩
  replace hsq0 := rep_frw hsq0 hW.size
  replace hW := hW.trans (hs_2.mono hW.size)
  replace hb1 := hb1.below hs_2 hb1.lt
  refine XF rfl (cs := [.int .i64 11, .int .i64 0, .int .i64 (-1), .int .i64 (-1), .int .i64 (-1), .int .i64 0, .int .i64 10, .slice a0 (sCreateTopicsRequestTopic.map fldD).length c0]) (by kernel_rfl) rfl ?_
  refine XF rfl (cs := [.int .i64 3, .int .i64 0, .int .i64 (-1), .int .i64 (-1), .int .i64 (-1), .int .i64 60000, .int .i64 0, .slice none 0 0]) (by kernel_rfl) rfl ?_
  refine XF rfl (cs := [.int .i64 0, .int .i64 1, .int .i64 (-1), .int .i64 (-1), .int .i64 (-1), .int .i64 0, .int .i64 0, .slice none 0 0]) (by kernel_rfl) rfl ?_
  refine JW [[.int .i64 11, .int .i64 0, .int .i64 (-1), .int .i64 (-1), .int .i64 (-1), .int .i64 0, .int .i64 10, .slice a0 (sCreateTopicsRequestTopic.map fldD).length c0], [.int .i64 3, .int .i64 0, .int .i64 (-1), .int .i64 (-1), .int .i64 (-1), .int .i64 60000, .int .i64 0, .slice none 0 0], [.int .i64 0, .int .i64 1, .int .i64 (-1), .int .i64 (-1), .int .i64 (-1), .int .i64 0, .int .i64 0, .slice none 0 0]] rt_flds rfl rfl (by simp) rfl rfl rfl (fun w3 hbS hgS hsS => ?_)
  have hs_3 := Yx hgS (Nat.le_refl _) (by simp)
  have hz := hW.size
  replace hsq0 := rep_fr hsq0 hs_3 (Nat.le_refl _)
  replace hW := hW.trans (hs_3.mono hW.size)
  replace hb1 := hb1.below hs_3 hb1.lt
  have hfin : Rep (Frs w1.heap.size w3.heap.size) w3 (.sq (m.fields.map fldD)) [.slice (some ⟨w2.heap.size, 0, none⟩) 3 3] := by
    simp only [Rep]
    exact ⟨_, 3, rfl, Nat.le_refl _, .inr ⟨w2.heap.size, 0, _, rfl, ⟨hz, hbS.lt⟩, hbS.cells, (Xz (rep_fldS hsq0) (Xz (VR _ _ (.mk 3 0 (-1) (-1) (-1) 60000 0 []) rfl) (Xz (VR _ _ (.mk 0 1 (-1) (-1) (-1) 0 0 []) rfl) JV)))⟩⟩
  refine XF rfl (cs := [.slice (some ⟨w2.heap.size, 0, none⟩) 3 3, .int .i64 5]) (by kernel_rfl) rfl ?_
  refine Xg (vs := [.slice (some ⟨w2.heap.size, 0, none⟩) 3 3, .int .i64 5]) rfl rfl rfl tz_msg rfl hb1 rfl (fun wz hbz hgz hsz => ?_)
  repeat first|(with_reducible first|apply Yk|apply Yd|apply Ym|apply Yj|apply Yh|apply Yi|apply Yn|apply Yl|apply Ye|apply Yg|apply Yr|apply Yc|apply Yf|apply Yb|apply Ya)|((with_reducible apply ws);exact rfl;exact rfl)|((with_reducible apply Yo);exact rfl;exact rfl;exact rfl)|((with_reducible apply Yq);exact rfl;exact rfl;exact rfl;exact rfl)|((with_reducible apply Yp);exact rfl;exact rfl;exact rfl)
  have hW0 := hs_1.trans (hW.mono hs_1.size)
  refine UT (cs := [.slice (some ⟨w2.heap.size, 0, none⟩) 3 3, .int .i64 5]) rfl rfl ta_msg hbz ⟨_, rfl, hW0.trans (Yx hgz hW0.size (by intro q hq; simp at hq; omega)), _, rfl, ?_⟩
  exact Rep.mono (fun b hb => ⟨by have := hb.2; simp only [Lo]; omega, hgz.block b hb.2 (by have := hb.1; simp; omega)⟩) _ _ hfin
/-- Its cells, at nought; by default; at a version. -/
noncomputable def z0 : List Value := match Tryz.prog.info? 68 with | some i => (match i.zero with | some z => z.cells.toList | none => []) | none => []
noncomputable def d0 : List Value := match (defF Tryz.prog 24).bind fun l => setAll l z0 with | some cs => cs | none => []
noncomputable def cs0 (ver : Int) : List Value := .int .i16 ver :: d0.drop 1
theorem d0_eq : (defF Tryz.prog 24).bind (fun l => setAll l z0) = some d0 := by kernel_rfl
theorem d0_hd : d0 = .int .i16 0 :: d0.drop 1 := by kernel_rfl
theorem zv (w : World) : (zeroValue 68).run Tryz.prog w = .ok (.agg z0.toArray) w := by kernel_rfl
theorem fn_new (w : World) : Calls Tryz.prog 15 #[] w fun e w' => e = .returned (.pointer (some ⟨w.heap.size, 0, none⟩)) ∧ Box w' w.heap.size d0 68 ∧ Below w.heap.size w w' := by
  obtain ⟨l, hl, hset⟩ := Option.bind_eq_some_iff.1 d0_eq
  refine enter (vs := []) Tryz.func15 rfl Tryz.ntmps15 rfl ?_
  repeat first|(with_reducible first|apply Yk|apply Yd|apply Ym|apply Yj|apply Yh|apply Yi|apply Yn|apply Yl|apply Ye|apply Yg|apply Yr|apply Yc|apply Yf|apply Yb|apply Ya)|((with_reducible apply ws);exact rfl;exact rfl)|((with_reducible apply Yo);exact rfl;exact rfl;exact rfl)|((with_reducible apply Yq);exact rfl;exact rfl;exact rfl;exact rfl)|((with_reducible apply Yp);exact rfl;exact rfl;exact rfl)
  refine Xu zv rfl rfl (fun w1 hb1 hg1 hs1 => ?_)
  repeat first|(with_reducible first|apply Yk|apply Yd|apply Ym|apply Yj|apply Yh|apply Yi|apply Yn|apply Yl|apply Ye|apply Yg|apply Yr|apply Yc|apply Yf|apply Yb|apply Ya)|((with_reducible apply ws);exact rfl;exact rfl)|((with_reducible apply Yo);exact rfl;exact rfl;exact rfl)|((with_reducible apply Yq);exact rfl;exact rfl;exact rfl;exact rfl)|((with_reducible apply Yp);exact rfl;exact rfl;exact rfl)
  have hdef := defF_ok (w := w1) hl (b := w.heap.size) (pre := []) (cs := z0) (post := []) (cs' := d0) (e := 68) (by simpa using hb1) hset
  refine Yu rfl hdef.1 rfl (hdef.2.mono ?_)
  rintro e w2 ⟨rfl, hb2, hc2⟩
  refine ⟨_, rfl, ?_⟩
  repeat first|(with_reducible first|apply Yk|apply Yd|apply Ym|apply Yj|apply Yh|apply Yi|apply Yn|apply Yl|apply Ye|apply Yg|apply Yr|apply Yc|apply Yf|apply Yb|apply Ya)|((with_reducible apply ws);exact rfl;exact rfl)|((with_reducible apply Yo);exact rfl;exact rfl;exact rfl)|((with_reducible apply Yq);exact rfl;exact rfl;exact rfl;exact rfl)|((with_reducible apply Yp);exact rfl;exact rfl;exact rfl)
  exact Yt rfl rfl ⟨rfl, by simpa using hb2, (Yx hg1 (Nat.le_refl _) (by simp)).trans (chg_below hc2 (fun j hj h => by have : j = w.heap.size := h; omega) (by omega))⟩
theorem fn_max (w : World) : Calls Tryz.prog 6 #[] w fun e w' => e = .returned (.int .i64 (most : Int)) ∧ Below w.heap.size w w' := by
  refine enter (vs := []) Tryz.func6 rfl Tryz.ntmps6 rfl ?_
  repeat first|(with_reducible first|apply Yk|apply Yd|apply Ym|apply Yj|apply Yh|apply Yi|apply Yn|apply Yl|apply Ye|apply Yg|apply Yr|apply Yc|apply Yf|apply Yb|apply Ya)|((with_reducible apply ws);exact rfl;exact rfl)|((with_reducible apply Yo);exact rfl;exact rfl;exact rfl)|((with_reducible apply Yq);exact rfl;exact rfl;exact rfl;exact rfl)|((with_reducible apply Yp);exact rfl;exact rfl;exact rfl)
  refine Yu rfl (by kernel_rfl) rfl ((fn_new w).mono ?_)
  rintro e w1 ⟨rfl, hb1, hw1⟩
  refine ⟨_, rfl, ?_⟩
  repeat first|(with_reducible first|apply Yk|apply Yd|apply Ym|apply Yj|apply Yh|apply Yi|apply Yn|apply Yl|apply Ye|apply Yg|apply Yr|apply Yc|apply Yf|apply Yb|apply Ya)|((with_reducible apply ws);exact rfl;exact rfl)|((with_reducible apply Yo);exact rfl;exact rfl;exact rfl)|((with_reducible apply Yq);exact rfl;exact rfl;exact rfl;exact rfl)|((with_reducible apply Yp);exact rfl;exact rfl;exact rfl)
  have hmax : Calls Tryz.prog 16 #[.pointer (some ⟨w.heap.size, 0, none⟩)] w1 fun e w' => e = .returned (.int .i16 (most : Int)) ∧ w' = w1 := by
    refine enter (vs := [.pointer (some ⟨w.heap.size, 0, none⟩)]) Tryz.func16 rfl Tryz.ntmps16 rfl ?_
    repeat first|(with_reducible first|apply Yk|apply Yd|apply Ym|apply Yj|apply Yh|apply Yi|apply Yn|apply Yl|apply Ye|apply Yg|apply Yr|apply Yc|apply Yf|apply Yb|apply Ya)|((with_reducible apply ws);exact rfl;exact rfl)|((with_reducible apply Yo);exact rfl;exact rfl;exact rfl)|((with_reducible apply Yq);exact rfl;exact rfl;exact rfl;exact rfl)|((with_reducible apply Yp);exact rfl;exact rfl;exact rfl)
    exact Yt rfl rfl ⟨rfl, rfl⟩
  refine Yu rfl (by kernel_rfl) rfl ((hmax).mono ?_)
  rintro e w2 ⟨rfl, rfl⟩
  refine ⟨_, rfl, ?_⟩
  refine YB .i64 rfl ti_i16 ti_i64 rfl (r := (most : Int)) rfl ?_
  repeat first|(with_reducible first|apply Yk|apply Yd|apply Ym|apply Yj|apply Yh|apply Yi|apply Yn|apply Yl|apply Ye|apply Yg|apply Yr|apply Yc|apply Yf|apply Yb|apply Ya)|((with_reducible apply ws);exact rfl;exact rfl)|((with_reducible apply Yo);exact rfl;exact rfl;exact rfl)|((with_reducible apply Yq);exact rfl;exact rfl;exact rfl;exact rfl)|((with_reducible apply Yp);exact rfl;exact rfl;exact rfl)
  exact Yt rfl rfl ⟨rfl, hw1⟩
theorem fn_set (w : World) (b : Nat) (x : Value) (r : List Value) (ver : Int) (hb : Box w b (x :: r) 68) : Calls Tryz.prog 19 #[.pointer (some ⟨b, 0, none⟩), .int .i16 ver] w fun e w' => e = .returned (.tuple #[]) ∧ Box w' b (.int .i16 ver :: r) 68 ∧ w.grownBy w' (some b) := by
  refine enter (vs := [.pointer (some ⟨b, 0, none⟩), .int .i16 ver]) Tryz.func19 rfl Tryz.ntmps19 rfl ?_
  repeat first|(with_reducible first|apply Yk|apply Yd|apply Ym|apply Yj|apply Yh|apply Yi|apply Yn|apply Yl|apply Ye|apply Yg|apply Yr|apply Yc|apply Yf|apply Yb|apply Ya)|((with_reducible apply ws);exact rfl;exact rfl)|((with_reducible apply Yo);exact rfl;exact rfl;exact rfl)|((with_reducible apply Yq);exact rfl;exact rfl;exact rfl;exact rfl)|((with_reducible apply Yp);exact rfl;exact rfl;exact rfl)
  refine YJ (i := 0) rfl rfl to_i16 rfl hb rfl (fun w1 hb1 hg1 _ => ?_)
  exact Ym (Jl rfl ⟨rfl, hb1, hg1⟩)
theorem rd_all : (List.range (most + 1)).all (fun v => readOk Tryz.prog Rdk.kr 35 (v : Int) true (m.flexible (v : Int)) m.fields (cs0 (v : Int)) && JR (v : Int) m.fields) = true := by kernel_rfl
theorem rd (v : Nat) (h : v ≤ most) : readOk Tryz.prog Rdk.kr 35 (v : Int) true (m.flexible (v : Int)) m.fields (cs0 (v : Int)) = true ∧ JR (v : Int) m.fields = true := by
  have := List.all_eq_true.1 rd_all v (List.mem_range.2 (by omega))
  simpa only [Bool.and_eq_true] using this
theorem ap : ∀ v : Nat, v ≤ most → appRun Tryz.prog (kt 101 102 (v : Int)) 5 93 (.int .i16 :: shP true m.fields) = some (some .dst, exP (v : Int) true (m.flexible (v : Int)) 1 0 1 m.fields, true)
  | 0, _ => by kernel_rfl
  | 1, _ => by kernel_rfl
  | 2, _ => by kernel_rfl
  | 3, _ => by kernel_rfl
  | 4, _ => by kernel_rfl
  | 5, _ => by kernel_rfl
  | 6, _ => by kernel_rfl
  | 7, _ => by kernel_rfl
  | n + 8, h => absurd h (by simp only [most]; omega)
theorem tg_ok (v : Int) : m.flexible v = true → true = true := fun _ => rfl
/-- It is read. -/
theorem fn_read (v : Nat) (hv : v ≤ most) (t : Tree) (ht : t.ok) (w : World) (ev sv : Value) (b sb : Nat) (hb : Box w b (cs0 (v : Int)) 68) (hs : SrcAt w sb sv (YM (v : Int) (m.flexible (v : Int)) m.fields t)) (hsb : sb < w.heap.size) (hne : b ≠ sb)
    (hg : w.cell? ⟨0, 0, none⟩ = some ev) (hgb : 0 ≠ b) (hgl : 0 < w.heap.size) :
    Calls Tryz.prog 20 #[.pointer (some ⟨b, 0, none⟩), sv] w fun en w' => en = .returned .nilIface ∧ ∃ cs' lo new, w.heap.size ≤ lo ∧ Box w' b cs' 68 ∧ YX (Dk sb lo w') w' (.lit (.int .i16 (v : Int)) :: new) cs' ∧ UE (v : Int) true (m.flexible (v : Int)) m.fields ((Yk4 (v : Int) m.fields t).withNull false) new ∧ Chg (fun j => j = b ∨ w.heap.size ≤ j) w w' := by
  obtain ⟨hread, htab⟩ := rd v hv
  obtain ⟨hfit, hwire⟩ := fitt_ok htab ht (m.flexible (v : Int))
  have hr := read_ok (Rdk.kr_ok ev) Rdk.kr_ty (tg_ok (v : Int)) hread hfit hb (by rw [hwire]; exact hs) hsb hne hg hgb hgl
  refine enter (vs := [.pointer (some ⟨b, 0, none⟩), sv]) Tryz.func20 rfl Tryz.ntmps20 rfl ?_
  repeat first|(with_reducible first|apply Yk|apply Yd|apply Ym|apply Yj|apply Yh|apply Yi|apply Yn|apply Yl|apply Ye|apply Yg|apply Yr|apply Yc|apply Yf|apply Yb|apply Ya)|((with_reducible apply ws);exact rfl;exact rfl)|((with_reducible apply Yo);exact rfl;exact rfl;exact rfl)|((with_reducible apply Yq);exact rfl;exact rfl;exact rfl;exact rfl)|((with_reducible apply Yp);exact rfl;exact rfl;exact rfl)
  refine Yu rfl hr.1 rfl (hr.2.mono ?_)
  rintro en w1 ⟨rfl, h⟩
  refine ⟨_, rfl, ?_⟩
  repeat first|(with_reducible first|apply Yk|apply Yd|apply Ym|apply Yj|apply Yh|apply Yi|apply Yn|apply Yl|apply Ye|apply Yg|apply Yr|apply Yc|apply Yf|apply Yb|apply Ya)|((with_reducible apply ws);exact rfl;exact rfl)|((with_reducible apply Yo);exact rfl;exact rfl;exact rfl)|((with_reducible apply Yq);exact rfl;exact rfl;exact rfl;exact rfl)|((with_reducible apply Yp);exact rfl;exact rfl;exact rfl)
  exact Yt rfl rfl ⟨rfl, h⟩
/-- What was read is appended. -/
theorem fn_app (v : Nat) (hv : v ≤ most) (t : Tree) (ht : t.ok) (w : World) (b B : Nat) (cs : List Value) (new : List D) (d : Value) (xs : List UInt8) (e : TypeId) (hb : Box w b cs e) (hbB : b < B) (hr : YX (Lo B) w (.lit (.int .i16 (v : Int)) :: new) cs) (hh : UE (v : Int) true (m.flexible (v : Int)) m.fields ((Yk4 (v : Int) m.fields t).withNull false) new)
    (ho : Own w B 5 d xs) (hB : B ≤ w.heap.size) (hl : xs.length + (YM (v : Int) (m.flexible (v : Int)) m.fields t).length ≤ lim) :
    Uq Tryz.prog 93 = true ∧ Calls Tryz.prog 93 #[.pointer (some ⟨b, 0, none⟩), d] w fun en w' => ∃ d', en = .returned d' ∧ Own w' B 5 d' (xs ++ YM (v : Int) (m.flexible (v : Int)) m.fields t) ∧ Grew w w' d d' := by
  obtain ⟨_, htab⟩ := rd v hv
  obtain ⟨hfit, hwire⟩ := fitt_ok htab ht (m.flexible (v : Int))
  have hsem := exP_ok (tg_ok (v : Int)) (m := 1) (k := 0) (off := 1) (E := [.lit (.int .i16 (v : Int)) :: new]) (pre := [.lit (.int .i16 (v : Int))]) (post := []) hh (by simp) (by intro d hd; simp at hd; subst hd; simp [D.width]) rfl rfl hfit
  rw [hwire] at hsem
  have hw : IntKind.i16.wrap (v : Int) = (v : Int) := be2_ver v (by simp only [most] at hv; omega)
  refine app_ok (Rdk.tlenOk _ _) (fnsOk _ _ _) (Rdk.teachOk _ _) (ap v hv) (ds := .lit (.int .i16 (v : Int)) :: new) (cs := cs) ⟨hb.cells, hbB, hr⟩ ?_ (lits_head hr) ho hB hsem hl
  simp only [shDs, shD, hw, if_true, hh.sh.1]
  rfl
theorem fn_key (w : World) (b : Nat) : Calls Tryz.prog 96 #[.pointer (some ⟨b, 0, none⟩)] w fun e w' => e = .returned (.int .i16 19) ∧ w' = w := by
  refine enter (vs := [.pointer (some ⟨b, 0, none⟩)]) Tryz.func96 rfl Tryz.ntmps96 rfl ?_
  repeat first|(with_reducible first|apply Yk|apply Yd|apply Ym|apply Yj|apply Yh|apply Yi|apply Yn|apply Yl|apply Ye|apply Yg|apply Yr|apply Yc|apply Yf|apply Yb|apply Ya)|((with_reducible apply ws);exact rfl;exact rfl)|((with_reducible apply Yo);exact rfl;exact rfl;exact rfl)|((with_reducible apply Yq);exact rfl;exact rfl;exact rfl;exact rfl)|((with_reducible apply Yp);exact rfl;exact rfl;exact rfl)
  exact Yt rfl rfl ⟨rfl, rfl⟩
theorem fn_getv (w : World) (b : Nat) (ver : Int) (r : List Value) (e : TypeId) (hb : Box w b (.int .i16 ver :: r) e) : Calls Tryz.prog 94 #[.pointer (some ⟨b, 0, none⟩)] w fun e w' => e = .returned (.int .i16 ver) ∧ w' = w := by
  refine enter (vs := [.pointer (some ⟨b, 0, none⟩)]) Tryz.func94 rfl Tryz.ntmps94 rfl ?_
  repeat first|(with_reducible first|apply Yk|apply Yd|apply Ym|apply Yj|apply Yh|apply Yi|apply Yn|apply Yl|apply Ye|apply Yg|apply Yr|apply Yc|apply Yf|apply Yb|apply Ya)|((with_reducible apply ws);exact rfl;exact rfl)|((with_reducible apply Yo);exact rfl;exact rfl;exact rfl)|((with_reducible apply Yq);exact rfl;exact rfl;exact rfl;exact rfl)|((with_reducible apply Yp);exact rfl;exact rfl;exact rfl)
  refine Yv (i := 0) rfl to_i16 rfl hb rfl ?_
  repeat first|(with_reducible first|apply Yk|apply Yd|apply Ym|apply Yj|apply Yh|apply Yi|apply Yn|apply Yl|apply Ye|apply Yg|apply Yr|apply Yc|apply Yf|apply Yb|apply Ya)|((with_reducible apply ws);exact rfl;exact rfl)|((with_reducible apply Yo);exact rfl;exact rfl;exact rfl)|((with_reducible apply Yq);exact rfl;exact rfl;exact rfl;exact rfl)|((with_reducible apply Yp);exact rfl;exact rfl;exact rfl)
  exact Yt rfl rfl ⟨rfl, rfl⟩
theorem fn_isf (w : World) (b : Nat) (ver : Int) (r : List Value) (e : TypeId) (hb : Box w b (.int .i16 ver :: r) e) : Calls Tryz.prog 95 #[.pointer (some ⟨b, 0, none⟩)] w fun e w' => e = .returned (.bool (m.flexible ver)) ∧ w' = w := by
  refine enter (vs := [.pointer (some ⟨b, 0, none⟩)]) Tryz.func95 rfl Tryz.ntmps95 rfl ?_
  repeat first|(with_reducible first|apply Yk|apply Yd|apply Ym|apply Yj|apply Yh|apply Yi|apply Yn|apply Yl|apply Ye|apply Yg|apply Yr|apply Yc|apply Yf|apply Yb|apply Ya)|((with_reducible apply ws);exact rfl;exact rfl)|((with_reducible apply Yo);exact rfl;exact rfl;exact rfl)|((with_reducible apply Yq);exact rfl;exact rfl;exact rfl;exact rfl)|((with_reducible apply Yp);exact rfl;exact rfl;exact rfl)
  refine Yv (i := 0) rfl to_i16 rfl hb rfl ?_
  repeat first|(with_reducible first|apply Yk|apply Yd|apply Ym|apply Yj|apply Yh|apply Yi|apply Yn|apply Yl|apply Ye|apply Yg|apply Yr|apply Yc|apply Yf|apply Yb|apply Ya)|((with_reducible apply ws);exact rfl;exact rfl)|((with_reducible apply Yo);exact rfl;exact rfl;exact rfl)|((with_reducible apply Yq);exact rfl;exact rfl;exact rfl;exact rfl)|((with_reducible apply Yp);exact rfl;exact rfl;exact rfl)
  exact Yt rfl rfl ⟨(by simp [Msg.flexible, m]; try exact decide_eq_decide.2 Iff.rfl), rfl⟩
theorem req (v : Nat) (hv : v ≤ most) (t : Tree) (ht : t.ok) (w : World) (b : Nat) (cs : List Value) (new : List D) (e : TypeId) (hb : Box w b cs e) (hr : YX (Lo w.heap.size) w (.lit (.int .i16 (v : Int)) :: new) cs) (hh : UE (v : Int) true (m.flexible (v : Int)) m.fields ((Yk4 (v : Int) m.fields t).withNull false) new) :
    Frm.Req 46 b 19 (v : Int) (m.flexible (v : Int)) (YM (v : Int) (m.flexible (v : Int)) m.fields t) w := by
  have hr0 := hr
  simp only [YX, Rep] at hr0
  obtain ⟨c1, c2, rfl, rfl, _⟩ := hr0
  exact ⟨⟨96, fun w => by kernel_rfl, by kernel_rfl, fun w' _ => fn_key w' b⟩,
    ⟨94, fun w => by kernel_rfl, by kernel_rfl, fun w' hw => fn_getv w' b _ c2 e (hb.below hw hb.lt)⟩,
    ⟨95, fun w => by kernel_rfl, by kernel_rfl, fun w' hw => fn_isf w' b _ c2 e (hb.below hw hb.lt)⟩,
    ⟨93, fun w => by kernel_rfl, by kernel_rfl, fun w' d xs B hw hB ho hB2 hl => (fn_app v hv t ht w' b B _ new d xs e (hb.below hw hb.lt) (by have := hb.lt; omega) (hr.below hw hB) hh ho hB2 hl).2⟩⟩
set_option maxHeartbeats 4000000 in
theorem fn_door (v : Nat) (hv : v ≤ most) (t : Tree) (ht : t.ok) (w : World) (ev sv : Value) (has : Bool) (id : ByteArray) (number : Int) (hid : id.size ≤ 32767) (hs : Xn w sv (YM (v : Int) (m.flexible (v : Int)) m.fields t)) (hg : w.cell? ⟨0, 0, none⟩ = some ev)
    (hl : 1000000 + (YM (v : Int) (m.flexible (v : Int)) m.fields t).length ≤ lim) :
    Calls Tryz.prog 10 #[.agg #[.bool has, .string id], .int .i32 number, .int .i64 (v : Int), sv] w fun e w' => ∃ d', e = .returned (.tuple #[d', .bool true]) ∧ Own w' w.heap.size 5 d' (Frm.Uj 19 (v : Int) number has (Yd3 id) (m.flexible (v : Int)) (YM (v : Int) (m.flexible (v : Int)) m.fields t)) ∧ Below w.heap.size w w' := by
  have hvm : v < 32768 := by simp only [most] at hv; omega
  obtain ⟨sa, sc, hsv⟩ := hs.shape
  refine enter (vs := [.agg #[.bool has, .string id], .int .i32 number, .int .i64 (v : Int), sv]) Tryz.func10 rfl Tryz.ntmps10 rfl ?_
  refine Yk (Yd (Xt (cs := [.bool has, .string id]) rfl rfl rfl (fun w0 hb0 hg0 hs0 => ?_)))
  have hw0 : Below w.heap.size w w0 := Yx hg0 (Nat.le_refl _) (by simp)
  have hz0 := hw0.size
  repeat first|(with_reducible first|apply Yk|apply Yd|apply Ym|apply Yj|apply Yh|apply Yi|apply Yn|apply Yl|apply Ye|apply Yg|apply Yr|apply Yc|apply Yf|apply Yb|apply Ya)|((with_reducible apply ws);exact rfl;exact rfl)|((with_reducible apply Yo);exact rfl;exact rfl;exact rfl)|((with_reducible apply Yq);exact rfl;exact rfl;exact rfl;exact rfl)|((with_reducible apply Yp);exact rfl;exact rfl;exact rfl)
  refine Yu rfl (by kernel_rfl) rfl ((fn_new w0).mono ?_)
  rintro e w1 ⟨rfl, hb1, hw01⟩
  refine ⟨_, rfl, ?_⟩
  have hw1 := hw0.trans (hw01.mono (by omega))
  have hz1 := hw01.size
  repeat first|(with_reducible first|apply Yk|apply Yd|apply Ym|apply Yj|apply Yh|apply Yi|apply Yn|apply Yl|apply Ye|apply Yg|apply Yr|apply Yc|apply Yf|apply Yb|apply Ya)|((with_reducible apply ws);exact rfl;exact rfl)|((with_reducible apply Yo);exact rfl;exact rfl;exact rfl)|((with_reducible apply Yq);exact rfl;exact rfl;exact rfl;exact rfl)|((with_reducible apply Yp);exact rfl;exact rfl;exact rfl)
  refine YB .i16 rfl ti_i64 ti_i16 rfl (r := (v : Int)) (be2_ver v hvm) ?_
  rw [d0_hd] at hb1
  refine Yu rfl (by kernel_rfl) rfl ((fn_set w1 w0.heap.size _ _ (v : Int) hb1).mono ?_)
  rintro e w2 ⟨rfl, hb2, hg2⟩
  refine ⟨_, rfl, ?_⟩
  have hlt := hb1.lt
  have hw2 := hw1.trans (Yx hg2 (by omega) (by intro q hq; simp at hq; omega))
  have hs2 := hs.below hw2
  have hz2 := hg2.size
  repeat first|(with_reducible first|apply Yk|apply Yd|apply Ym|apply Yj|apply Yh|apply Yi|apply Yn|apply Yl|apply Ye|apply Yg|apply Yr|apply Yc|apply Yf|apply Yb|apply Ya)|((with_reducible apply ws);exact rfl;exact rfl)|((with_reducible apply Yo);exact rfl;exact rfl;exact rfl)|((with_reducible apply Yq);exact rfl;exact rfl;exact rfl;exact rfl)|((with_reducible apply Yp);exact rfl;exact rfl;exact rfl)
  refine YK tb_bytes tb_bytes rfl rfl rfl hs2 (Own.nil w2 w2.heap.size 5) (Nat.le_refl _) (by simp only [List.length_nil]; omega) (fun d3 w3 ho3 hg3 => ?_)
  have hw23 : Below w2.heap.size w2 w3 := hg3.below (Nat.le_refl _) (by simp [Value.ownBlock])
  have hw3 := hw2.trans (hw23.mono (by omega))
  have hb3 := hb2.below hw23 (by omega)
  have hz3 := hw23.size
  have hgl : 0 < w.heap.size := World.block_lt_of_cell? _ _ hg
  have hg3' : w3.cell? ⟨0, 0, none⟩ = some ev := by rw [← hg]; simp only [World.cell?, hw3.block _ hgl]
  rw [List.nil_append] at ho3
  obtain ⟨sb, hsb, hsbx, hsrc⟩ := own_src ho3 (by simp only [srcLim]; simp only [lim] at hl; omega) (x0 := 0) (by omega)
  refine Yu rfl (by kernel_rfl) rfl ((fn_read v hv t ht w3 ev d3 w0.heap.size sb hb3 hsrc hsb (by omega) hg3' (by omega) (by omega)).mono ?_)
  rintro e w4 ⟨rfl, cs4, lo4, new4, hlo4, hb4, hr4, hh4, hc4⟩
  refine ⟨_, rfl, ?_⟩
  have hw34 : Below w0.heap.size w3 w4 := chg_below hc4 (fun j hj h => by rcases h with h | h <;> omega) (by omega)
  have hw4 := hw3.trans (hw34.mono (by omega))
  have hz4 := hw34.size
  refine wl_ifNeNil rfl (by kernel_rfl) rfl ?_
  repeat first|(with_reducible first|apply Yk|apply Yd|apply Ym|apply Yj|apply Yh|apply Yi|apply Yn|apply Yl|apply Ye|apply Yg|apply Yr|apply Yc|apply Yf|apply Yb|apply Ya)|((with_reducible apply ws);exact rfl;exact rfl)|((with_reducible apply Yo);exact rfl;exact rfl;exact rfl)|((with_reducible apply Yq);exact rfl;exact rfl;exact rfl;exact rfl)|((with_reducible apply Yp);exact rfl;exact rfl;exact rfl)
  refine YE rfl rfl ?_
  repeat first|(with_reducible first|apply Yk|apply Yd|apply Ym|apply Yj|apply Yh|apply Yi|apply Yn|apply Yl|apply Ye|apply Yg|apply Yr|apply Yc|apply Yf|apply Yb|apply Ya)|((with_reducible apply ws);exact rfl;exact rfl)|((with_reducible apply Yo);exact rfl;exact rfl;exact rfl)|((with_reducible apply Yq);exact rfl;exact rfl;exact rfl;exact rfl)|((with_reducible apply Yp);exact rfl;exact rfl;exact rfl)
  have hb04 : Box w4 w.heap.size [.bool has, .string id] 23 := by
    have h1 := hb0.below hw01 hb0.lt
    have h2 : Below w0.heap.size w1 w4 := ((Yx hg2 (by omega) (by intro q hq; simp at hq; omega)).trans (hw23.mono (by omega))).trans hw34
    exact h1.below h2 (by omega)
  refine YW (cs := [.bool has, .string id]) rfl (by kernel_rfl) rfl hb04 ?_
  repeat first|(with_reducible first|apply Yk|apply Yd|apply Ym|apply Yj|apply Yh|apply Yi|apply Yn|apply Yl|apply Ye|apply Yg|apply Yr|apply Yc|apply Yf|apply Yb|apply Ya)|((with_reducible apply ws);exact rfl;exact rfl)|((with_reducible apply Yo);exact rfl;exact rfl;exact rfl)|((with_reducible apply Yq);exact rfl;exact rfl;exact rfl;exact rfl)|((with_reducible apply Yp);exact rfl;exact rfl;exact rfl)
  refine Ym0 rfl (by kernel_rfl) rfl ?_
  repeat first|(with_reducible first|apply Yk|apply Yd|apply Ym|apply Yj|apply Yh|apply Yi|apply Yn|apply Yl|apply Ye|apply Yg|apply Yr|apply Yc|apply Yf|apply Yb|apply Ya)|((with_reducible apply ws);exact rfl;exact rfl)|((with_reducible apply Yo);exact rfl;exact rfl;exact rfl)|((with_reducible apply Yq);exact rfl;exact rfl;exact rfl;exact rfl)|((with_reducible apply Yp);exact rfl;exact rfl;exact rfl)
  have hr4' : YX (Lo w4.heap.size) w4 (.lit (.int .i16 (v : Int)) :: new4) cs4 := YX.mono (fun j hj => ⟨hj.2, rfl⟩) _ _ hr4
  have hcall := Frm.fn_framed 46 w0.heap.size 19 (v : Int) number (m.flexible (v : Int)) _ has id w4 (req v hv t ht w4 w0.heap.size cs4 new4 _ hb4 hr4' hh4) (by omega) hid hl
  refine Yu rfl (by kernel_rfl) rfl (hcall.mono ?_)
  rintro e w6 ⟨d6, rfl, ho6, hw46⟩
  refine ⟨_, rfl, ?_⟩
  repeat first|(with_reducible first|apply Yk|apply Yd|apply Ym|apply Yj|apply Yh|apply Yi|apply Yn|apply Yl|apply Ye|apply Yg|apply Yr|apply Yc|apply Yf|apply Yb|apply Ya)|((with_reducible apply ws);exact rfl;exact rfl)|((with_reducible apply Yo);exact rfl;exact rfl;exact rfl)|((with_reducible apply Yq);exact rfl;exact rfl;exact rfl;exact rfl)|((with_reducible apply Yp);exact rfl;exact rfl;exact rfl)
  exact UJ rfl rfl rfl ⟨d6, rfl, ho6.mono (by omega), hw4.trans (hw46.mono (by omega))⟩
end
end Go.Proofs.YtmihblfjhoblmaaGreatDoor.BCreateTopicsRequest

/- FnFrameCreateTopicsRequest: whatever stands in the arguments, the statement's function returns true and leaves them as they were. Conditions: those of the row (the card ties its one listed variable to the program's text), no Xs. -/
namespace Go.Proofs.YtmihblfjhoblmaaGreatDoor.BCreateTopicsRequest
open Go Go.RowKit
section
set_option maxRecDepth 100000
theorem len_ok (t : Tree) (ht : t.ok) (hsm : t.wt ≤ 1048576) (ver : Int) (flex : Bool) : 1000000 + (YM ver flex m.fields t).length ≤ lim := by
  have h1 := wPart_price ver flex m.fields t ht
  have h2 : 1000000 + JD m.fields * 1048576 ≤ lim := by decide +kernel
  exact Nat.le_trans (Nat.add_le_add_left (Nat.le_trans h1 (Nat.mul_le_mul_left (JD m.fields) hsm)) 1000000) h2
set_option maxHeartbeats 8000000 in
theorem fn_law (n : Nat) (hn : n < 256) (has : Bool) (id : ByteArray) (number : Int) (hnum : IntKind.i32.wrap number = number) (t : Tree) (ht : t.ok) (hsm : t.wt ≤ 1048576) (w : World) (ev : Value) (ts : List Value) (hrep : Rep (Lo w.heap.size) w (treeD t) ts) (hg : w.cell? ⟨0, 0, none⟩ = some ev) :
    Fn 3 [.int .u8 (n : Int), .agg #[.bool has, .string id], .int .i32 number, .agg ts.toArray] w fun v _ => v = .bool true := by
  obtain ⟨sv2, lv, uv, rfl, _, _, _⟩ := XO hrep
  refine enter Tryz.func3 rfl Tryz.ntmps3 rfl ?_
  refine Yk (Yd (Xt (cs := [.bool has, .string id]) rfl rfl rfl (fun wi hbi hgi hsi => ?_)))
  have hwi : Below w.heap.size w wi := Yx hgi (Nat.le_refl _) (by simp)
  repeat first|(with_reducible first|apply Yk|apply Yd|apply Ym|apply Yj|apply Yh|apply Yi|apply Yn|apply Yl|apply Ye|apply Yg|apply Yr|apply Yc|apply Yf|apply Yb|apply Ya)|((with_reducible apply ws);exact rfl;exact rfl)|((with_reducible apply Yo);exact rfl;exact rfl;exact rfl)|((with_reducible apply Yq);exact rfl;exact rfl;exact rfl;exact rfl)|((with_reducible apply Yp);exact rfl;exact rfl;exact rfl)
  refine Xt (cs := [.int .i64 t.n, sv2, .bool t.nul, lv, uv]) rfl rfl rfl (fun w1 hb1 hg1 hs1 => ?_)
  have hwi1 : Below wi.heap.size wi w1 := Yx hg1 (Nat.le_refl _) (by simp)
  have hw1 : Below w.heap.size w w1 := hwi.trans (hwi1.mono (by omega))
  have hbi1 := hbi.below hwi1 hbi.lt
  repeat first|(with_reducible first|apply Yk|apply Yd|apply Ym|apply Yj|apply Yh|apply Yi|apply Yn|apply Yl|apply Ye|apply Yg|apply Yr|apply Yc|apply Yf|apply Yb|apply Ya)|((with_reducible apply ws);exact rfl;exact rfl)|((with_reducible apply Yo);exact rfl;exact rfl;exact rfl)|((with_reducible apply Yq);exact rfl;exact rfl;exact rfl;exact rfl)|((with_reducible apply Yp);exact rfl;exact rfl;exact rfl)
  refine YW (cs := [.bool has, .string id]) rfl (by kernel_rfl) rfl hbi1 ?_
  refine Yu rfl (by kernel_rfl) rfl ((Frm.fn_fits4 has id w1).mono ?_)
  rintro e w1a ⟨v, rfl, hw11a, q4, rfl⟩
  refine ⟨_, rfl, ?_⟩
  have hz11a := hw11a.size
  have hw1a := hw1.trans (hw11a.mono (by omega))
  repeat first|(with_reducible first|apply Yk|apply Yd|apply Ym|apply Yj|apply Yh|apply Yi|apply Yn|apply Yl|apply Ye|apply Yg|apply Yr|apply Yc|apply Yf|apply Yb|apply Ya)|((with_reducible apply ws);exact rfl;exact rfl)|((with_reducible apply Yo);exact rfl;exact rfl;exact rfl)|((with_reducible apply Yq);exact rfl;exact rfl;exact rfl;exact rfl)|((with_reducible apply Yp);exact rfl;exact rfl;exact rfl)
  cases q4
  · repeat first|(with_reducible first|apply Yk|apply Yd|apply Ym|apply Yj|apply Yh|apply Yi|apply Yn|apply Yl|apply Ye|apply Yg|apply Yr|apply Yc|apply Yf|apply Yb|apply Ya)|((with_reducible apply ws);exact rfl;exact rfl)|((with_reducible apply Yo);exact rfl;exact rfl;exact rfl)|((with_reducible apply Yq);exact rfl;exact rfl;exact rfl;exact rfl)|((with_reducible apply Yp);exact rfl;exact rfl;exact rfl)
    refine Yz rfl rfl ?_
    repeat first|(with_reducible first|apply Yk|apply Yd|apply Ym|apply Yj|apply Yh|apply Yi|apply Yn|apply Yl|apply Ye|apply Yg|apply Yr|apply Yc|apply Yf|apply Yb|apply Ya)|((with_reducible apply ws);exact rfl;exact rfl)|((with_reducible apply Yo);exact rfl;exact rfl;exact rfl)|((with_reducible apply Yq);exact rfl;exact rfl;exact rfl;exact rfl)|((with_reducible apply Yp);exact rfl;exact rfl;exact rfl)
    exact Yt rfl rfl ⟨_, rfl, hw1a, rfl⟩
  repeat first|(with_reducible first|apply Yk|apply Yd|apply Ym|apply Yj|apply Yh|apply Yi|apply Yn|apply Yl|apply Ye|apply Yg|apply Yr|apply Yc|apply Yf|apply Yb|apply Ya)|((with_reducible apply ws);exact rfl;exact rfl)|((with_reducible apply Yo);exact rfl;exact rfl;exact rfl)|((with_reducible apply Yq);exact rfl;exact rfl;exact rfl;exact rfl)|((with_reducible apply Yp);exact rfl;exact rfl;exact rfl)
  refine YW (cs := [.int .i64 t.n, sv2, .bool t.nul, lv, uv]) rfl ta_tree rfl (hb1.below hw11a hb1.lt) ?_
  repeat first|(with_reducible first|apply Yk|apply Yd|apply Ym|apply Yj|apply Yh|apply Yi|apply Yn|apply Yl|apply Ye|apply Yg|apply Yr|apply Yc|apply Yf|apply Yb|apply Ya)|((with_reducible apply ws);exact rfl;exact rfl)|((with_reducible apply Yo);exact rfl;exact rfl;exact rfl)|((with_reducible apply Yq);exact rfl;exact rfl;exact rfl;exact rfl)|((with_reducible apply Yp);exact rfl;exact rfl;exact rfl)
  refine Yu rfl (by kernel_rfl) rfl ((fn_fits1 t w.heap.size w1a _ (by omega) (hrep.below hw1a (Nat.le_refl _))).mono ?_)
  rintro e w2 ⟨v, rfl, hw1a2, q, rfl⟩
  refine ⟨_, rfl, ?_⟩
  have hw12 := hw11a.trans (hw1a2.mono (by omega))
  have hz12 := hw12.size
  have hw2 := hw1.trans (hw12.mono (by omega))
  repeat first|(with_reducible first|apply Yk|apply Yd|apply Ym|apply Yj|apply Yh|apply Yi|apply Yn|apply Yl|apply Ye|apply Yg|apply Yr|apply Yc|apply Yf|apply Yb|apply Ya)|((with_reducible apply ws);exact rfl;exact rfl)|((with_reducible apply Yo);exact rfl;exact rfl;exact rfl)|((with_reducible apply Yq);exact rfl;exact rfl;exact rfl;exact rfl)|((with_reducible apply Yp);exact rfl;exact rfl;exact rfl)
  cases q
  · repeat first|(with_reducible first|apply Yk|apply Yd|apply Ym|apply Yj|apply Yh|apply Yi|apply Yn|apply Yl|apply Ye|apply Yg|apply Yr|apply Yc|apply Yf|apply Yb|apply Ya)|((with_reducible apply ws);exact rfl;exact rfl)|((with_reducible apply Yo);exact rfl;exact rfl;exact rfl)|((with_reducible apply Yq);exact rfl;exact rfl;exact rfl;exact rfl)|((with_reducible apply Yp);exact rfl;exact rfl;exact rfl)
    refine Yz rfl rfl ?_
    repeat first|(with_reducible first|apply Yk|apply Yd|apply Ym|apply Yj|apply Yh|apply Yi|apply Yn|apply Yl|apply Ye|apply Yg|apply Yr|apply Yc|apply Yf|apply Yb|apply Ya)|((with_reducible apply ws);exact rfl;exact rfl)|((with_reducible apply Yo);exact rfl;exact rfl;exact rfl)|((with_reducible apply Yq);exact rfl;exact rfl;exact rfl;exact rfl)|((with_reducible apply Yp);exact rfl;exact rfl;exact rfl)
    exact Yt rfl rfl ⟨_, rfl, hw2, rfl⟩
  repeat first|(with_reducible first|apply Yk|apply Yd|apply Ym|apply Yj|apply Yh|apply Yi|apply Yn|apply Yl|apply Ye|apply Yg|apply Yr|apply Yc|apply Yf|apply Yb|apply Ya)|((with_reducible apply ws);exact rfl;exact rfl)|((with_reducible apply Yo);exact rfl;exact rfl;exact rfl)|((with_reducible apply Yq);exact rfl;exact rfl;exact rfl;exact rfl)|((with_reducible apply Yp);exact rfl;exact rfl;exact rfl)
  refine YE rfl rfl ?_
  repeat first|(with_reducible first|apply Yk|apply Yd|apply Ym|apply Yj|apply Yh|apply Yi|apply Yn|apply Yl|apply Ye|apply Yg|apply Yr|apply Yc|apply Yf|apply Yb|apply Ya)|((with_reducible apply ws);exact rfl;exact rfl)|((with_reducible apply Yo);exact rfl;exact rfl;exact rfl)|((with_reducible apply Yq);exact rfl;exact rfl;exact rfl;exact rfl)|((with_reducible apply Yp);exact rfl;exact rfl;exact rfl)
  refine Yu rfl (by kernel_rfl) rfl ((fn_max w2).mono ?_)
  rintro e w3 ⟨rfl, hw23⟩
  refine ⟨_, rfl, ?_⟩
  have hz23 := hw23.size
  have hw13 := hw12.trans (hw23.mono (by omega))
  have hw3 := hw2.trans (hw23.mono (by omega))
  repeat first|(with_reducible first|apply Yk|apply Yd|apply Ym|apply Yj|apply Yh|apply Yi|apply Yn|apply Yl|apply Ye|apply Yg|apply Yr|apply Yc|apply Yf|apply Yb|apply Ya)|((with_reducible apply ws);exact rfl;exact rfl)|((with_reducible apply Yo);exact rfl;exact rfl;exact rfl)|((with_reducible apply Yq);exact rfl;exact rfl;exact rfl;exact rfl)|((with_reducible apply Yp);exact rfl;exact rfl;exact rfl)
  refine YE rfl (by decide) ?_
  repeat first|(with_reducible first|apply Yk|apply Yd|apply Ym|apply Yj|apply Yh|apply Yi|apply Yn|apply Yl|apply Ye|apply Yg|apply Yr|apply Yc|apply Yf|apply Yb|apply Ya)|((with_reducible apply ws);exact rfl;exact rfl)|((with_reducible apply Yo);exact rfl;exact rfl;exact rfl)|((with_reducible apply Yq);exact rfl;exact rfl;exact rfl;exact rfl)|((with_reducible apply Yp);exact rfl;exact rfl;exact rfl)
  refine Yu rfl (by kernel_rfl) rfl ((fn_table w3).mono ?_)
  rintro e w4 ⟨v, rfl, hw34, fv, rfl, hsq⟩
  refine ⟨_, rfl, ?_⟩
  have hz34 := hw34.size
  have hw14 := hw13.trans (hw34.mono (by omega))
  have hw4 := hw3.trans (hw34.mono (by omega))
  repeat first|(with_reducible first|apply Yk|apply Yd|apply Ym|apply Yj|apply Yh|apply Yi|apply Yn|apply Yl|apply Ye|apply Yg|apply Yr|apply Yc|apply Yf|apply Yb|apply Ya)|((with_reducible apply ws);exact rfl;exact rfl)|((with_reducible apply Yo);exact rfl;exact rfl;exact rfl)|((with_reducible apply Yq);exact rfl;exact rfl;exact rfl;exact rfl)|((with_reducible apply Yp);exact rfl;exact rfl;exact rfl)
  refine Yu rfl (by kernel_rfl) rfl ((fn_version n most hn (by decide) w4).mono ?_)
  rintro e w4' ⟨v, rfl, _, hww, rfl⟩
  obtain rfl : w4 = w4' := hww.symm
  refine ⟨_, rfl, ?_⟩
  refine Xu zv_msg rfl rfl (fun w5 hb5 hg5 hs5 => ?_)
  obtain ⟨fa, fc, rfl, _⟩ := hsq.shape
  refine Xg (vs := [.slice fa (m.fields.map fldD).length fc, .int .i64 m.flex]) rfl rfl rfl tz_msg rfl hb5 rfl (fun w6 hb6 hg6 hs6 => ?_)
  have hw46 : Below w4.heap.size w4 w6 := (Yx hg5 (Nat.le_refl _) (by simp)).trans (Yx hg6 (by omega) (by intro q hq; simp at hq; omega))
  have hz46 := hw46.size
  have hw16 := hw14.trans (hw46.mono (by omega))
  have hw6 := hw4.trans (hw46.mono (by omega))
  have hbi6 := hbi1.below hw16 hbi1.lt
  repeat first|(with_reducible first|apply Yk|apply Yd|apply Ym|apply Yj|apply Yh|apply Yi|apply Yn|apply Yl|apply Ye|apply Yg|apply Yr|apply Yc|apply Yf|apply Yb|apply Ya)|((with_reducible apply ws);exact rfl;exact rfl)|((with_reducible apply Yo);exact rfl;exact rfl;exact rfl)|((with_reducible apply Yq);exact rfl;exact rfl;exact rfl;exact rfl)|((with_reducible apply Yp);exact rfl;exact rfl;exact rfl)
  refine XJ rfl (show YY Tryz.prog 23 1 = some 1 by kernel_rfl) rfl ?_
  refine Yv (i := 1) rfl to_str rfl hbi6 rfl ?_
  refine Jx rfl ts_str rfl ?_
  repeat first|(with_reducible first|apply Yk|apply Yd|apply Ym|apply Yj|apply Yh|apply Yi|apply Yn|apply Yl|apply Ye|apply Yg|apply Yr|apply Yc|apply Yf|apply Yb|apply Ya)|((with_reducible apply ws);exact rfl;exact rfl)|((with_reducible apply Yo);exact rfl;exact rfl;exact rfl)|((with_reducible apply Yq);exact rfl;exact rfl;exact rfl;exact rfl)|((with_reducible apply Yp);exact rfl;exact rfl;exact rfl)
  by_cases h1 : (32767 : Int) < (id.size : Int)
  · have e1 : decide ((32767 : Int) < (id.size : Int)) = true := decide_eq_true h1
    rw [e1]
    refine Yz rfl rfl ?_
    repeat first|(with_reducible first|apply Yk|apply Yd|apply Ym|apply Yj|apply Yh|apply Yi|apply Yn|apply Yl|apply Ye|apply Yg|apply Yr|apply Yc|apply Yf|apply Yb|apply Ya)|((with_reducible apply ws);exact rfl;exact rfl)|((with_reducible apply Yo);exact rfl;exact rfl;exact rfl)|((with_reducible apply Yq);exact rfl;exact rfl;exact rfl;exact rfl)|((with_reducible apply Yp);exact rfl;exact rfl;exact rfl)
    exact Yt rfl rfl ⟨_, rfl, hw6, rfl⟩
  have e1 : decide ((32767 : Int) < (id.size : Int)) = false := decide_eq_false h1
  have hid : id.size ≤ 32767 := by omega
  rw [e1]
  refine YE rfl rfl ?_
  repeat first|(with_reducible first|apply Yk|apply Yd|apply Ym|apply Yj|apply Yh|apply Yi|apply Yn|apply Yl|apply Ye|apply Yg|apply Yr|apply Yc|apply Yf|apply Yb|apply Ya)|((with_reducible apply ws);exact rfl;exact rfl)|((with_reducible apply Yo);exact rfl;exact rfl;exact rfl)|((with_reducible apply Yq);exact rfl;exact rfl;exact rfl;exact rfl)|((with_reducible apply Yp);exact rfl;exact rfl;exact rfl)
  have hv : n % (most + 1) ≤ most := by have := Nat.mod_lt n (show most + 1 > 0 by omega); omega
  generalize n % (most + 1) = v at hv ⊢
  have hll := len_ok t ht hsm (v : Int) (m.flexible (v : Int))
  refine YW (cs := [.slice fa (m.fields.map fldD).length fc, .int .i64 m.flex]) rfl ta_msg rfl hb6 ?_
  repeat first|(with_reducible first|apply Yk|apply Yd|apply Ym|apply Yj|apply Yh|apply Yi|apply Yn|apply Yl|apply Ye|apply Yg|apply Yr|apply Yc|apply Yf|apply Yb|apply Ya)|((with_reducible apply ws);exact rfl;exact rfl)|((with_reducible apply Yo);exact rfl;exact rfl;exact rfl)|((with_reducible apply Yq);exact rfl;exact rfl;exact rfl;exact rfl)|((with_reducible apply Yp);exact rfl;exact rfl;exact rfl)
  refine YW (cs := [.int .i64 t.n, sv2, .bool t.nul, lv, uv]) rfl ta_tree rfl (hb1.below hw16 hb1.lt) ?_
  refine Yu rfl (by kernel_rfl) rfl ((fn_write m m_ok (v : Int) t w6.heap.size w6 _ _ ht (Nat.le_refl _) (hsq.below hw46 hz46) ((hrep.below hw6 hw6.size)) (by show (YM _ _ _ _).length ≤ lim; omega)).mono ?_)
  rintro e w7 ⟨bv7, rfl, hw67, ho7⟩
  refine ⟨_, rfl, ?_⟩
  have ho7' : Own w7 w6.heap.size 5 bv7 (YM (v : Int) (m.flexible (v : Int)) m.fields t) := ho7
  have hz67 := hw67.size
  have hz6 := hw6.size
  have hw7 := hw6.trans (hw67.mono (by omega))
  have hg7 : w7.cell? ⟨0, 0, none⟩ = some ev := by rw [← hg]; simp only [World.cell?, hw7.block _ (World.block_lt_of_cell? _ _ hg)]
  have hbi7 := hbi6.below hw67 hbi6.lt
  have hb7 := hb6.below hw67 hb6.lt
  repeat first|(with_reducible first|apply Yk|apply Yd|apply Ym|apply Yj|apply Yh|apply Yi|apply Yn|apply Yl|apply Ye|apply Yg|apply Yr|apply Yc|apply Yf|apply Yb|apply Ya)|((with_reducible apply ws);exact rfl;exact rfl)|((with_reducible apply Yo);exact rfl;exact rfl;exact rfl)|((with_reducible apply Yq);exact rfl;exact rfl;exact rfl;exact rfl)|((with_reducible apply Yp);exact rfl;exact rfl;exact rfl)
  refine YW (cs := [.bool has, .string id]) rfl (by kernel_rfl) rfl hbi7 ?_
  repeat first|(with_reducible first|apply Yk|apply Yd|apply Ym|apply Yj|apply Yh|apply Yi|apply Yn|apply Yl|apply Ye|apply Yg|apply Yr|apply Yc|apply Yf|apply Yb|apply Ya)|((with_reducible apply ws);exact rfl;exact rfl)|((with_reducible apply Yo);exact rfl;exact rfl;exact rfl)|((with_reducible apply Yq);exact rfl;exact rfl;exact rfl;exact rfl)|((with_reducible apply Yp);exact rfl;exact rfl;exact rfl)
  refine Yu rfl (by kernel_rfl) rfl ((fn_door v hv t ht w7 ev _ has id number hid ho7'.bytes hg7 hll).mono ?_)
  rintro e w8 ⟨d8, rfl, ho8, hw78⟩
  refine ⟨_, rfl, ?_⟩
  have hz78 := hw78.size
  have hw8 := hw7.trans (hw78.mono (by omega))
  have hbi8 := hbi7.below hw78 hbi7.lt
  have hb8 := hb7.below hw78 hb7.lt
  have hs8 := ho7'.bytes.below hw78
  have hd8 := ho8.bytes
  have hz7 := hw7.size
  repeat first|(with_reducible first|apply Yk|apply Yd|apply Ym|apply Yj|apply Yh|apply Yi|apply Yn|apply Yl|apply Ye|apply Yg|apply Yr|apply Yc|apply Yf|apply Yb|apply Ya)|((with_reducible apply ws);exact rfl;exact rfl)|((with_reducible apply Yo);exact rfl;exact rfl;exact rfl)|((with_reducible apply Yq);exact rfl;exact rfl;exact rfl;exact rfl)|((with_reducible apply Yp);exact rfl;exact rfl;exact rfl)
  refine wl_extract rfl rfl rfl ?_
  refine wl_extract rfl rfl rfl ?_
  repeat first|(with_reducible first|apply Yk|apply Yd|apply Ym|apply Yj|apply Yh|apply Yi|apply Yn|apply Yl|apply Ye|apply Yg|apply Yr|apply Yc|apply Yf|apply Yb|apply Ya)|((with_reducible apply ws);exact rfl;exact rfl)|((with_reducible apply Yo);exact rfl;exact rfl;exact rfl)|((with_reducible apply Yq);exact rfl;exact rfl;exact rfl;exact rfl)|((with_reducible apply Yp);exact rfl;exact rfl;exact rfl)
  clear ho7 ho7' ho8 hb6 hb5 hg5 hg6
  have hfl := Frm.frame_len 19 (v : Int) number has (Yd3 id) (m.flexible (v : Int)) (YM (v : Int) (m.flexible (v : Int)) m.fields t)
  rw [Vg] at hfl
  generalize hfr : Frm.Uj 19 (v : Int) number has (Yd3 id) (m.flexible (v : Int)) (YM (v : Int) (m.flexible (v : Int)) m.fields t) = fr at hd8
  have hfr2 : fr.length ≤ lim := by
    rw [← hfr]; unfold Frm.Uj
    rw [List.length_append, be_length]; omega
  refine wc_sub (L' := [(14, .bool true), (13, d8), (12, bv7), (11, .int .i64 (v : Int)), (10, .pointer (some ⟨w4.heap.size, 0, none⟩)), (5, .pointer (some ⟨w.heap.size, 0, none⟩)), (2, .int .i32 number)]) ⟨rfl, rfl, rfl, rfl, rfl, rfl, rfl, trivial⟩ ?_
  refine wc_po [(0, .bool true), (1, .bool true), (2, d8), (3, .int .i64 (v : Int)), (4, .int .i32 number), (5, .pointer (some ⟨w.heap.size, 0 + 0, none⟩)), (6, .bool has), (7, .pointer (some ⟨w.heap.size, 0 + 1, none⟩)), (8, .string id), (10, .agg ([.slice fa (m.fields.map fldD).length fc, .int .i64 m.flex] : List Value).toArray), (11, .int .i64 (v : Int)), (13, bv7)] [9, 12, 14, 15, 16, 17]
    (fun dn w' => Below w8.heap.size w8 w' ∧ (∀ x, (9, x) ∈ dn → Xn w' x (Yd3 id)) ∧ (∀ x, (12, x) ∈ dn → x = .bool (m.flexible (v : Int))) ∧ (∀ x, (14, x) ∈ dn → Xn w' x fr) ∧ (∀ x, (15, x) ∈ dn → x = .bool true) ∧ (∀ x, (16, x) ∈ dn → x = .bool true) ∧ (∀ x, (17, x) ∈ dn → x = .bool true))
    mixed rfl rfl rfl rfl rfl rfl (by show ([0,1,2,3,4,5,6,7,8,10,11,13] : List Nat).Nodup; decide) rfl rfl rfl ⟨Yx (UV w8 none) (Nat.le_refl _) (by simp), by simp, by simp, by simp, by simp, by simp, by simp⟩ ?_ ?_ ?_
  · rintro p hp dn w' ⟨hB, _⟩ a k
    simp only [List.mem_cons, List.not_mem_nil, or_false] at hp
    have hbw := hbi8.below hB hbi8.lt
    rcases hp with rfl | rfl | rfl | rfl | rfl | rfl | rfl | rfl | rfl | rfl | rfl | rfl
    · exact gv rfl rfl (YC k rfl)
    · exact gv rfl rfl (YC k rfl)
    · exact Xb rfl rfl rfl k rfl rfl (YC k rfl)
    · exact Xb rfl rfl rfl k rfl rfl (YC k rfl)
    · exact Xb rfl rfl rfl k rfl rfl (YC k rfl)
    · exact Xb rfl rfl rfl k rfl rfl (YI k rfl (by kernel_rfl))
    · exact Xb rfl rfl rfl k rfl rfl (Xe k rfl to_bool (hbw.cell (i := 0) rfl))
    · exact Xb rfl rfl rfl k rfl rfl (YI k rfl (by kernel_rfl))
    · exact Xb rfl rfl rfl k rfl rfl (Xe k rfl to_str (hbw.cell (i := 1) rfl))
    · exact Xb rfl rfl rfl k rfl rfl (XC (cs := [.slice fa (m.fields.map fldD).length fc, .int .i64 m.flex]) k rfl ta_msg (hb8.below hB hb8.lt))
    · exact Xb rfl rfl rfl k rfl rfl (YC k rfl)
    · exact Xb rfl rfl rfl k rfl rfl (YC k rfl)
  · rintro c hc dn w' ⟨hB, h9, h12, h14, h15, h16, h17⟩ hpr a k hgt
    have keep : ∀ (j : Nat) (x : Value) (w'' : World), Below w'.heap.size w' w'' → (j = 9 → Xn w'' x (Yd3 id)) → (j = 12 → x = .bool (m.flexible (v : Int))) → (j = 14 → Xn w'' x fr) → (j = 15 → x = .bool true) → (j = 16 → x = .bool true) → (j = 17 → x = .bool true) →
        Below w8.heap.size w8 w'' ∧ (∀ y, (9, y) ∈ (j, x) :: dn → Xn w'' y (Yd3 id)) ∧ (∀ y, (12, y) ∈ (j, x) :: dn → y = .bool (m.flexible (v : Int))) ∧ (∀ y, (14, y) ∈ (j, x) :: dn → Xn w'' y fr) ∧ (∀ y, (15, y) ∈ (j, x) :: dn → y = .bool true) ∧ (∀ y, (16, y) ∈ (j, x) :: dn → y = .bool true) ∧ (∀ y, (17, y) ∈ (j, x) :: dn → y = .bool true) := by
      intro j x w'' hb g9 g12 g14 g15 g16 g17
      refine ⟨hB.trans (hb.mono hB.size), ?_, ?_, ?_, ?_, ?_, ?_⟩
      · intro y hy
        rcases List.mem_cons.1 hy with e | e
        · cases e; exact g9 rfl
        · exact (h9 y e).below hb
      · intro y hy
        rcases List.mem_cons.1 hy with e | e
        · cases e; exact g12 rfl
        · exact h12 y e
      · intro y hy
        rcases List.mem_cons.1 hy with e | e
        · cases e; exact g14 rfl
        · exact (h14 y e).below hb
      · intro y hy
        rcases List.mem_cons.1 hy with e | e
        · cases e; exact g15 rfl
        · exact h15 y e
      · intro y hy
        rcases List.mem_cons.1 hy with e | e
        · cases e; exact g16 rfl
        · exact h16 y e
      · intro y hy
        rcases List.mem_cons.1 hy with e | e
        · cases e; exact g17 rfl
        · exact h17 y e
    simp only [List.mem_cons, List.not_mem_nil, or_false] at hc
    rcases hc with rfl | rfl | rfl | rfl | rfl | rfl
    · refine ⟨_, rfl, does_strB (e := 5) k rfl (by kernel_rfl) (fun x w'' hv hg => keep 9 x w'' (Yx hg (Nat.le_refl _) (by simp)) (fun _ => hv) (fun h => by cases h) (fun h => by cases h) (fun h => by cases h) (fun h => by cases h) (fun h => by cases h))⟩
    · refine ⟨_, rfl, YQ k rfl (by kernel_rfl) ((Frm.fn_flexible m (v : Int) _ w').mono ?_)⟩
      rintro e w'' ⟨x, rfl, hb, rfl⟩
      exact ⟨_, rfl, keep 12 _ w'' hb (fun h => by cases h) (fun _ => rfl) (fun h => by cases h) (fun h => by cases h) (fun h => by cases h) (fun h => by cases h)⟩
    · obtain ⟨x9, m9⟩ := hpr 9 (by decide) rfl
      obtain ⟨x12, m12⟩ := hpr 12 (by decide) rfl
      have k2 := k.mix (A := []) (F := [(55, x9), (58, x12)]) (by intro p hp; simp only [List.mem_cons, List.not_mem_nil, or_false] at hp; rcases hp with rfl | rfl; exact hgt 9 x9 55 m9 rfl; exact hgt 12 x12 58 m12 rfl)
      have e12 := h12 x12 m12
      subst e12
      refine ⟨_, rfl, YQ k2 rfl (by kernel_rfl) ((Frm.fn_frame 19 (v : Int) number has (m.flexible (v : Int)) hnum x9 bv7 (Yd3 id) _ w' (h9 x9 m9) (hs8.below (hB.mono (by omega))) (by rw [Vg]; omega)).mono ?_)⟩
      rintro e w'' ⟨x, rfl, hb, hox⟩
      rw [hfr] at hox
      exact ⟨_, rfl, keep 14 x w'' hb (fun h => by cases h) (fun h => by cases h) (fun _ => hox.bytes) (fun h => by cases h) (fun h => by cases h) (fun h => by cases h)⟩
    · obtain ⟨x14, m14⟩ := hpr 14 (by decide) rfl
      have k2 := k.mix (A := []) (F := [(60, x14)]) (by intro p hp; simp only [List.mem_cons, List.not_mem_nil, or_false] at hp; rcases hp with rfl; exact hgt 14 x14 60 m14 rfl)
      refine ⟨_, rfl, YQ k2 rfl (by kernel_rfl) ((fn_same _ _ _ _ w' (hd8.below hB) (h14 x14 m14) hfr2 hfr2).mono ?_)⟩
      rintro e w'' ⟨x, rfl, hb, rfl⟩
      exact ⟨_, rfl, keep 15 _ w'' hb (fun h => by cases h) (fun h => by cases h) (fun h => by cases h) (fun _ => by simp) (fun h => by cases h) (fun h => by cases h)⟩
    · obtain ⟨x15, m15⟩ := hpr 15 (by decide) rfl
      have k2 := k.mix (A := []) (F := [(61, x15)]) (by intro p hp; simp only [List.mem_cons, List.not_mem_nil, or_false] at hp; rcases hp with rfl; exact hgt 15 x15 61 m15 rfl)
      have e15 := h15 x15 m15
      subst e15
      exact ⟨_, rfl, does_pick k2 rfl rfl (keep 16 _ w' (Below.refl _ _) (fun h => by cases h) (fun h => by cases h) (fun h => by cases h) (fun h => by cases h) (fun _ => rfl) (fun h => by cases h))⟩
    · obtain ⟨x16, m16⟩ := hpr 16 (by decide) rfl
      have k2 := k.mix (A := []) (F := [(62, x16)]) (by intro p hp; simp only [List.mem_cons, List.not_mem_nil, or_false] at hp; rcases hp with rfl; exact hgt 16 x16 62 m16 rfl)
      have e16 := h16 x16 m16
      subst e16
      exact ⟨_, rfl, XK k2 rfl (keep 17 _ w' (Below.refl _ _) (fun h => by cases h) (fun h => by cases h) (fun h => by cases h) (fun h => by cases h) (fun h => by cases h) (fun _ => rfl))⟩
  · rintro dn w' ⟨hB, _, _, _, _, _, h17⟩ hall a k hgt
    obtain ⟨x17, m17⟩ := hall 17 (by decide)
    have e17 := h17 x17 m17
    subst e17
    have k2 := k.mix (A := []) (F := [(8, .bool true)]) (by intro p hp; simp only [List.mem_cons, List.not_mem_nil, or_false] at hp; rcases hp with rfl; exact hgt 17 _ 8 m17 rfl)
    exact Yj (Yn (Yt rfl rfl ⟨_, rfl, hw8.trans (hB.mono (by have := hw8.size; omega)), rfl⟩)) a k2
end
end Go.Proofs.YtmihblfjhoblmaaGreatDoor.BCreateTopicsRequest

/- An argument that is a tree, as the row hands it: what it says, as memory holds it. -/
namespace Go.Proofs.YtmihblfjhoblmaaGreatDoor
open Go Go.RowKit Go.ChangeShapes Go.WideShapes Go.ChangeAt

/-- Cells side by side, element by element. -/
theorem row_at {W : World} {a : Addr} {sz len : Nat} {f : Nat → List Value} (hsz : 0 < sz) (hlen : 0 < len)
    (hf : ∀ i, i < len → (f i).length = sz ∧ ∀ j v, (f i)[j]? = some v → W.cell? ((a.add (i * sz)).add j) = some v) :
    ∃ b off, a = ⟨b, off, none⟩ ∧ b < W.heap.size ∧ YL W b off ((List.range len).flatMap f) := by
  have h0 := hf 0 hlen
  obtain ⟨b, off, spot⟩ := a
  have hx : ∃ v, (f 0)[0]? = some v := by
    cases hv : (f 0)[0]? with
    | none => rw [List.getElem?_eq_none_iff] at hv; omega
    | some v => exact ⟨v, rfl⟩
  obtain ⟨v0, hv0⟩ := hx
  have hc0 := h0.2 0 v0 hv0
  have hspot : spot = none := by simpa [Addr.add] using World.cell?_spot hc0
  subst hspot
  simp only [Nat.zero_mul] at hc0
  have hadd : ∀ n m, (Addr.add (Addr.add ⟨b, off, none⟩ n) m) = ⟨b, off + n + m, none⟩ := fun n m => by rw [YN ⟨b, off, none⟩ n rfl]; rw [YN _ _ rfl]
  rw [hadd] at hc0
  -- the block itself
  have hobj : ∃ arr e fz, W.heap[b]? = some (.cells arr e fz) := by
    unfold World.cell? at hc0
    split at hc0
    · rename_i c e fz hh; exact ⟨c, e, fz, hh⟩
    · cases hc0
  obtain ⟨arr, e, fz, hh⟩ := hobj
  have hall : ∀ i j v, i < len → (f i)[j]? = some v → arr[off + i * sz + j]? = some v := by
    intro i j v hi hv
    have := (hf i hi).2 j v hv
    rw [hadd] at this
    simpa [World.cell?, hh] using this
  have hflat : ∀ n, n ≤ len → ((List.range n).flatMap f).length = n * sz ∧ ∀ q v, ((List.range n).flatMap f)[q]? = some v → arr[off + q]? = some v := by
    intro n
    induction n with
    | zero => intro _; simp
    | succ n ih =>
      intro hn
      obtain ⟨hl, hq⟩ := ih (by omega)
      rw [List.range_succ, List.flatMap_append]
      simp only [List.flatMap_cons, List.flatMap_nil, List.append_nil]
      refine ⟨by rw [List.length_append, hl, (hf n (by omega)).1, Nat.succ_mul], fun q v hv => ?_⟩
      by_cases hlt : q < n * sz
      · rw [List.getElem?_append_left (by omega)] at hv; exact hq q v hv
      · rw [List.getElem?_append_right (by omega), hl] at hv
        have := hall n (q - n * sz) v (by omega) hv
        rwa [show off + n * sz + (q - n * sz) = off + q from by omega] at this
  obtain ⟨hl, hq⟩ := hflat len (Nat.le_refl _)
  refine ⟨b, off, rfl, (Array.getElem?_eq_some_iff.1 hh).1, arr, e, fz, hh, ?_, hq⟩
  have hpos : 0 < len * sz := Nat.mul_pos hlen hsz
  have hlast : ∃ v, ((List.range len).flatMap f)[len * sz - 1]? = some v := by
    cases hv : ((List.range len).flatMap f)[len * sz - 1]? with
    | none => rw [List.getElem?_eq_none_iff] at hv; omega
    | some v => exact ⟨v, rfl⟩
  obtain ⟨v, hv⟩ := hlast
  have := (Array.getElem?_eq_some_iff.1 (hq _ v hv)).1
  rw [hl]; omega

theorem sum_le : ∀ (a b : List Nat), a.length = b.length → (∀ i (h : i < a.length) (h' : i < b.length), a[i] ≤ b[i]) → a.sum ≤ b.sum
  | [], b, _, _ => by simp
  | x :: a, [], h, _ => by simp at h
  | x :: a, y :: b, h, hall => by
    have h0 := hall 0 (by simp) (by simp)
    have h1 := sum_le a b (by simpa using h) (fun i hi hi' => by have := hall (i + 1) (by simpa using hi) (by simpa using hi'); simpa using this)
    simp only [List.getElem_cons_zero] at h0
    simp only [List.sum_cons]; omega
section
variable {H : Type} {enc : TypeId × Value → H} {P : Program} {W : World} {base : Nat} {spare : Nat → Bool} {held : Bool}
/-- A slice, its elements opened by 'hel'. -/
theorem open_sq {α : Type} {t e sz : Nat} (ht : P.underlying t = some (.slice e)) (hc : P.cellsOf e = sz) (hsz : 0 < sz) (g : α → D) (φ : α → Prop) (f0 : α → Nat) (bk : DataW H → Nat) (hnil : 1 ≤ bk .nil) (hsl : ∀ es sp : List (DataW H), (es.map bk).sum + 1 ≤ bk (.slice es sp)) {fuel : Nat} {cs : List Value} {x : DataW H × List MemPlace}
    (h : DataW.trod enc P W base spare held fuel t cs = some x)
    (hel : ∀ n cs' x', n < fuel → DataW.trod enc P W base spare held n e cs' = some x' → ∃ y : α, Rep (Lo W.heap.size) W (g y) cs' ∧ φ y ∧ f0 y ≤ bk x'.1) :
    ∃ (l : List α) (v : Value), cs = [v] ∧ l.length ≤ maxLen ∧ Sq W.heap.size W v (l.map g) ∧ (∀ y ∈ l, φ y) ∧ (l.map f0).sum + 1 ≤ bk x.1 := by
  rcases DataW.trod_slice ht h with ⟨rfl, rfl⟩ | ⟨a, len, cap, elems, rest, n, hfu, rfl, rfl, hb, hle, hcap, hlen, hels, _, _⟩
  · exact ⟨[], _, rfl, by simp, rep_nil _ _, by simp, by simpa using hnil⟩
  · have hone : ∀ i : Fin len, ∃ p : List Value × α, W.cells? base (a.add (i.1 * sz)) sz = some p.1 ∧ Rep (Lo W.heap.size) W (g p.2) p.1 ∧ φ p.2 ∧ f0 p.2 ≤ bk (elems[i.1]'(by have := i.2; omega)).1 := by
      intro ⟨i, hi⟩
      have h1 := hels i hi
      rw [List.getElem?_eq_getElem (by omega), hc] at h1
      obtain ⟨cs', h2, h3⟩ := Option.bind_eq_some_iff.1 h1
      obtain ⟨y, hy, hφ⟩ := hel n cs' _ (by omega) h3
      exact ⟨(cs', y), h2, hy, hφ⟩
    let F : Fin len → List Value × α := fun i => Classical.choose (hone i)
    have hF : ∀ i : Fin len, W.cells? base (a.add (i.1 * sz)) sz = some (F i).1 ∧ Rep (Lo W.heap.size) W (g (F i).2) (F i).1 ∧ φ (F i).2 ∧ f0 (F i).2 ≤ bk (elems[i.1]'(by have := i.2; omega)).1 := fun i => Classical.choose_spec (hone i)
    let f : Nat → List Value := fun i => if hi : i < len then (F ⟨i, hi⟩).1 else []
    let l : List α := List.ofFn fun i => (F i).2
    have hll : l.length = len := by simp [l]
    have hφ : ∀ y ∈ l, φ y := by
      intro y hy
      obtain ⟨i, hi⟩ := (List.mem_ofFn).1 hy
      rw [← hi]; exact (hF i).2.2.1
    have hsum : (l.map f0).sum + 1 ≤ bk (.slice (elems.map (·.1)) (rest.map (·.1))) := by
      refine Nat.le_trans (Nat.succ_le_succ (sum_le (l.map f0) ((elems.map (·.1)).map bk) (by simp [hll, hlen]) (fun i hi hi' => ?_))) (hsl _ _)
      have hi2 : i < len := by simpa [hll] using hi
      have := (hF ⟨i, hi2⟩).2.2.2
      simpa [l] using this
    refine ⟨l, _, rfl, by rw [hll]; omega, ?_, hφ, hsum⟩
    simp only [Sq, Rep]
    refine ⟨some a, cap, by simp [hll], by simpa [hll] using hle, ?_⟩
    by_cases hpos : 0 < len
    · have hfi : ∀ i, i < len → (f i).length = sz ∧ ∀ j v, (f i)[j]? = some v → W.cell? ((a.add (i * sz)).add j) = some v := by
        intro i hi
        have h1 := (hF ⟨i, hi⟩).1
        have h2 := World.cells?_some h1
        simp only [f, dif_pos hi]
        refine ⟨h2.2.1, fun j v hj => ?_⟩
        have := h2.2.2 j (by have := (List.getElem?_eq_some_iff.1 hj).1; omega)
        rw [this]; exact hj
      obtain ⟨b, off, rfl, hlt, hcells⟩ := row_at hsz hpos hfi
      refine .inr ⟨b, off, _, rfl, hlt, hcells, ?_⟩
      have hreps : ∀ n, n ≤ len → YX (Lo W.heap.size) W ((l.take n).map g) ((List.range n).flatMap f) := by
        intro n
        induction n with
        | zero => intro _; simp [YX]
        | succ n ih =>
          intro hn
          have hnl : n < l.length := by omega
          rw [List.take_succ_eq_append_getElem hnl, List.map_append, List.range_succ, List.flatMap_append]
          refine (YX.app _ _ _).2 ⟨_, _, rfl, ih (by omega), ?_⟩
          simp only [List.map_cons, List.map_nil, List.flatMap_cons, List.flatMap_nil, List.append_nil, YX]
          refine ⟨f n, [], by simp, ?_, rfl⟩
          have hln : l[n] = (F ⟨n, by omega⟩).2 := by simp [l]
          have hfn : f n = (F ⟨n, by omega⟩).1 := by simp only [f]; rw [dif_pos (by omega)]
          rw [hln, hfn]; exact (hF ⟨n, by omega⟩).2.1
      have := hreps len (Nat.le_refl _)
      rwa [List.take_of_length_le (by omega)] at this
    · have : l = [] := List.length_eq_zero_iff.1 (by omega)
      left; rw [this]; rfl
end
end Go.Proofs.YtmihblfjhoblmaaGreatDoor

/- A tree among the arguments: what it says. -/
namespace Go.Proofs.YtmihblfjhoblmaaGreatDoor
open Go Go.RowKit Go.ChangeShapes Go.WideShapes Go.ChangeAt

theorem co_i64 : Tryz.prog.cellsOf 2 = 1 := by kernel_rfl
theorem co_u8 : Tryz.prog.cellsOf 5 = 1 := by kernel_rfl
theorem co_u32 : Tryz.prog.cellsOf 59 = 1 := by kernel_rfl
theorem co_bool : Tryz.prog.cellsOf 4 = 1 := by kernel_rfl
theorem co_bytes : Tryz.prog.cellsOf 24 = 1 := by kernel_rfl
theorem co_trees : Tryz.prog.cellsOf 25 = 1 := by kernel_rfl
theorem co_tags : Tryz.prog.cellsOf 26 = 1 := by kernel_rfl
theorem co_tree : Tryz.prog.cellsOf 28 = 5 := by kernel_rfl
theorem co_tag : Tryz.prog.cellsOf 61 = 2 := by kernel_rfl
theorem len2 {α : Type} {l : List α} (h : l.length = 2) : ∃ a b, l = [a, b] := by
  match l, h with
  | [a, b], _ => exact ⟨a, b, rfl⟩
theorem len5 {α : Type} {l : List α} (h : l.length = 5) : ∃ a b c d e, l = [a, b, c, d, e] := by
  match l, h with
  | [a, b, c, d, e], _ => exact ⟨a, b, c, d, e, rfl⟩
section
set_option maxRecDepth 100000
variable {H : Type} {enc : TypeId × Value → H} {W : World} {base : Nat} {spare : Nat → Bool} {held : Bool}
theorem bk_all {l : List (DataW H)} : Rows.uptoBulkAll l = (l.map Rows.uptoBulk).sum := by
  induction l with
  | nil => rfl
  | cons x l ih => simp only [Rows.uptoBulkAll, List.map_cons, List.sum_cons, ih]
theorem bk_sl (es sp : List (DataW H)) : (es.map Rows.uptoBulk).sum + 1 ≤ Rows.uptoBulk (.slice es sp) := by
  simp only [Rows.uptoBulk, bk_all]; omega
theorem bk_agg (es : List (DataW H)) : (es.map Rows.uptoBulk).sum + 1 ≤ Rows.uptoBulk (.agg es) := by
  simp only [Rows.uptoBulk, bk_all]; omega
theorem bk_int (k : IntKind) (n : Int) : 1 ≤ Rows.uptoBulk (H := H) (.lit (.int k n)) := by simp [Rows.uptoBulk]
theorem bk_nil : 1 ≤ Rows.uptoBulk (H := H) .nil := by simp [Rows.uptoBulk]
theorem wts_sum (l : List Tree) : Tree.wts l = (l.map Tree.wt).sum := by
  induction l with
  | nil => rfl
  | cons x l ih => simp only [Tree.wts, List.map_cons, List.sum_cons, ih]
theorem ones_sum {α : Type} (l : List α) : (l.map fun _ => 1).sum = l.length := by
  induction l with
  | nil => rfl
  | cons x l ih => simp only [List.map_cons, List.sum_cons, List.length_cons, ih]; omega
theorem Yk9 {fuel : Nat} {cs : List Value} {x : DataW H × List MemPlace} (h : DataW.trod enc Tryz.prog W base spare held fuel 24 cs = some x) :
    ∃ (s : List UInt8) (v : Value), cs = [v] ∧ s.length ≤ maxLen ∧ Sq W.heap.size W v (s.map byteD) ∧ s.length + 1 ≤ Rows.uptoBulk x.1 := by
  obtain ⟨l, v, h1, h2, h3, _, h5⟩ := open_sq (e := 5) (sz := 1) Tryz.underlying24 co_u8 (by omega) byteD (fun _ => True) (fun _ => 1) Rows.uptoBulk bk_nil bk_sl h (fun n cs' x' _ hx => by
    obtain ⟨m, rfl, hxe, hw⟩ := DataW.trod_int Tryz.underlying5 hx
    have hm : 0 ≤ m ∧ m ≤ 255 := by simpa [Lit.wf, IntKind.min, IntKind.max, IntKind.signed, IntKind.bits] using hw
    refine ⟨UInt8.ofNat m.toNat, ?_, trivial, by rw [hxe]; exact bk_int _ _⟩
    simp only [byteD, Rep]
    rw [byteNat _ (by omega)]
    congr 2
    omega)
  rw [ones_sum] at h5
  exact ⟨l, v, h1, h2, h3, h5⟩
theorem open_tags {fuel : Nat} {cs : List Value} {x : DataW H × List MemPlace} (h : DataW.trod enc Tryz.prog W base spare held fuel 26 cs = some x) :
    ∃ (u : List (Nat × List UInt8)) (v : Value), cs = [v] ∧ u.length ≤ maxLen ∧ Sq W.heap.size W v (u.map Yj6) ∧ (∀ kv ∈ u, kv.1 < 4294967296) ∧ Vl u + 1 ≤ Rows.uptoBulk x.1 := by
  refine open_sq (e := 61) (sz := 2) Tryz.underlying26 co_tag (by omega) Yj6 (fun kv => kv.1 < 4294967296) (fun kv => kv.2.length + 1) Rows.uptoBulk bk_nil bk_sl h (fun n cs' x' _ hx => ?_)
  obtain ⟨xs, k, _, rfl, hl, hlen, hf⟩ := DataW.trod_struct Tryz.underlying61 hx
  rw [co_tag] at hl
  obtain ⟨v0, v1, rfl⟩ := len2 hl
  · have hxl : xs.length = 2 := hlen
    have h0 := hf 0 _ rfl
    have h1 := hf 1 _ rfl
    rw [List.getElem?_eq_getElem (by omega)] at h0 h1
    simp [co_u32, co_bytes] at h0 h1
    obtain ⟨m, hv0, _, hw⟩ := DataW.trod_int Tryz.underlying59 h0
    obtain ⟨s, v, hv1, _, hs, hsb⟩ := Yk9 h1
    have hm : 0 ≤ m ∧ m ≤ 4294967295 := by simpa [Lit.wf, IntKind.min, IntKind.max, IntKind.signed, IntKind.bits] using hw
    simp only [List.cons.injEq, and_true] at hv0 hv1
    subst hv0; subst hv1
    refine ⟨(m.toNat, s), ?_, by simp only []; omega, ?_⟩
    rotate_left
    · obtain ⟨a, b, rfl⟩ := len2 hxl
      · have := bk_agg [a.1, b.1]
        simp only [List.map_cons, List.map_nil, List.sum_cons, List.sum_nil, List.getElem_cons_succ, List.getElem_cons_zero] at this hsb ⊢
        omega
    have : (.int .u32 m : Value) = .int .u32 ((m.toNat : Nat) : Int) := by congr 1; omega
    rw [this]
    exact rep_tag hs
theorem open_tree : ∀ (fuel : Nat) (cs : List Value) (x : DataW H × List MemPlace), DataW.trod enc Tryz.prog W base spare held fuel 28 cs = some x →
    ∃ t : Tree, Rep (Lo W.heap.size) W (treeD t) cs ∧ t.ok ∧ t.wt ≤ Rows.uptoBulk x.1 := by
  intro fuel
  induction fuel using Nat.strongRecOn with
  | _ fuel ih =>
    intro cs x h
    obtain ⟨xs, k, hfu, rfl, hl, hlen, hf⟩ := DataW.trod_struct Tryz.underlying28 h
    rw [co_tree] at hl
    obtain ⟨v0, v1, v2, v3, v4, rfl⟩ := len5 hl
    · have hxl : xs.length = 5 := hlen
      have h0 := hf 0 _ rfl
      have h1 := hf 1 _ rfl
      have h2 := hf 2 _ rfl
      have h3 := hf 3 _ rfl
      have h4 := hf 4 _ rfl
      rw [List.getElem?_eq_getElem (by omega)] at h0 h1 h2 h3 h4
      simp [co_i64, co_bytes, co_bool, co_trees, co_tags] at h0 h1 h2 h3 h4
      obtain ⟨n, hv0, hb0, hw0⟩ := DataW.trod_int Tryz.underlying2 h0
      obtain ⟨s, sv, hv1, hsl, hs, hb1⟩ := Yk9 h1
      obtain ⟨b, hv2, hb2⟩ := DataW.trod_bool Tryz.underlying4 h2
      obtain ⟨l, lv, hv3, _, hl3, hok, hb3⟩ := open_sq (e := 28) (sz := 5) Tryz.underlying25 co_tree (by omega) treeD (fun t => t.ok) Tree.wt Rows.uptoBulk bk_nil bk_sl h3 (fun n cs' x' hn hx => ih n (by omega) cs' x' hx)
      obtain ⟨u, uv, hv4, _, hu, huk, hb4⟩ := open_tags h4
      simp only [List.cons.injEq, and_true] at hv0 hv1 hv2 hv3 hv4
      subst hv0; subst hv1; subst hv2; subst hv3; subst hv4
      refine ⟨.mk n s b l u, rep_tree hs hl3 hu, ?_, ?_⟩
      rotate_left
      · obtain ⟨a0, a1, a2, a3, a4, rfl⟩ := len5 hxl
        · have := bk_agg [a0.1, a1.1, a2.1, a3.1, a4.1]
          simp only [List.map_cons, List.map_nil, List.sum_cons, List.sum_nil, List.getElem_cons_succ, List.getElem_cons_zero] at this hb0 hb1 hb2 hb3 hb4 ⊢
          simp only [Tree.wt, wts_sum]
          omega
      simp only [Tree.ok]
      refine ⟨by simp only [maxLen] at hsl; omega, huk, ?_, by simpa [Lit.wf, IntKind.min, IntKind.max, IntKind.signed, IntKind.bits] using hw0⟩
      have : ∀ l : List Tree, (∀ t ∈ l, t.ok) → Tree.oks l := by
        intro l
        induction l with
        | nil => intro _; simp [Tree.oks]
        | cons y l ih2 => intro h; simp only [Tree.oks]; exact ⟨h y (by simp), ih2 (fun t ht => h t (by simp [ht]))⟩
      exact this l hok
end
end Go.Proofs.YtmihblfjhoblmaaGreatDoor

/- FnFrameCreateTopicsRequest: the row, and its card, its one listed variable tied to the program's text (the tie is given). Conditions: those of the row, no Xs. -/
namespace Go.Proofs.YtmihblfjhoblmaaGreatDoor.BCreateTopicsRequest
open Go Go.RowKit Go.ChangeShapes Go.WideShapes Go.ChangeAt

theorem own : ownKnob Tryz.prog.godebug = none := by kernel_rfl
theorem laidOut : laidOutB Tryz.prog = true := by kernel_rfl
theorem gErr : Tryz.prog.globalNamed "pub-mailsack/pub/kmsg/inner/kbin.ErrNotEnoughData" = some 0 := by kernel_rfl
theorem gErrT : (Tryz.prog.globals[(0 : Nat)]?).map (·.type) = some 55 := by kernel_rfl
/-- What the condition gives the walk: the variable's one cell. -/
theorem err_of_laid {W : World} (h : laidMetH Tryz.prog Rows.fnFrameCreateTopicsRequestRow.laid W) : ∃ ev, W.cell? ⟨0, 0, none⟩ = some ev := by
  have h' : laidMet Tryz.prog Rows.fnFrameCreateTopicsRequestRow.laid W := h
  obtain ⟨ps, ⟨g0, t0, cs0, f0, p0, q0, hg0, ht0, hv0, hd0, _⟩, _⟩ := h'
  obtain rfl := Option.some.inj (gErr.symm.trans hg0)
  obtain rfl := Option.some.inj (gErrT.symm.trans ht0)
  obtain ⟨l0⟩ := cs0
  obtain ⟨fu, u, v, e, _, _⟩ := iface_of_trod Tryz.underlying55 hd0
  have e' : l0 = [.iface u v] := e
  subst e'
  exact ⟨_, by simpa using World.var?_cell hg0 hv0 0⟩
abbrev errText : ByteArray := ⟨#[114, 101, 115, 112, 111, 110, 115, 101, 32, 100, 105, 100, 32, 110, 111, 116, 32, 99, 111, 110, 116, 97, 105, 110, 32, 101, 110, 111, 117, 103, 104, 32, 100, 97, 116, 97, 32, 116, 111, 32, 98, 101, 32, 118, 97, 108, 105, 100]⟩
noncomputable def low : Nat := (World.holding Tryz.prog default ⟨#[], #[], []⟩).heap.size
/-- A world that meets the condition. -/
noncomputable def Yf2 (os : Os) : World :=
  let w0 := World.holding Tryz.prog os ⟨#[.cells #[.string errText] 195], #[], []⟩
  { w0 with heap := w0.heap.modify 0 fun
      | .cells _ t frozen => .cells #[.iface 138 (.pointer (some ⟨low, 0, none⟩))] t frozen
      | o => o }
theorem laidWorld_met (os : Os) (args : Array Value) : laidMetH Tryz.prog Rows.fnFrameCreateTopicsRequestRow.laid ((Yf2 os).forCall (fun _ _ => 0) ⟨#[], args, []⟩).memory :=
  show laidMet Tryz.prog Rows.fnFrameCreateTopicsRequestRow.laid _ from laidMet_of_run' 8 (by kernel_rfl) (by kernel_rfl)
theorem co_id : Tryz.prog.cellsOf 23 = 2 := by kernel_rfl
theorem co_idb : Tryz.prog.cellsOf 4 = 1 := by kernel_rfl
theorem co_ids : Tryz.prog.cellsOf 9 = 1 := by kernel_rfl
theorem open_id {H : Type} {enc : TypeId × Value → H} {W : World} {base : Nat} {spare : Nat → Bool} {held : Bool} {fuel : Nat} {cs : List Value} {x : DataW H × List MemPlace} (h : DataW.trod enc Tryz.prog W base spare held fuel 23 cs = some x) :
    ∃ (has : Bool) (s : ByteArray), cs = [.bool has, .string s] := by
  obtain ⟨xs, k, _, rfl, hl, hlen, hf⟩ := DataW.trod_struct Tryz.underlying23 h
  rw [co_id] at hl
  obtain ⟨v0, v1, rfl⟩ := len2 hl
  · have hxl : xs.length = 2 := hlen
    have h0 := hf 0 _ rfl
    have h1 := hf 1 _ rfl
    rw [List.getElem?_eq_getElem (by omega)] at h0 h1
    simp [co_idb, co_ids] at h0 h1
    obtain ⟨b, hv0, _⟩ := DataW.trod_bool Tryz.underlying4 h0
    obtain ⟨s, hv1, _, _⟩ := DataW.trod_string Tryz.underlying9 h1
    simp only [List.cons.injEq, and_true] at hv0 hv1
    subst hv0; subst hv1
    exact ⟨b, s, rfl⟩
theorem VQ (os : Os) {H : Type} (enc : TypeId × Value → H) : ∃ places, DataW.whole enc Tryz.prog ((Yf2 os).forCall (fun _ _ => 0) ⟨#[], #[.int .u8 0, .agg #[.bool false, .string ⟨#[]⟩], .int .i32 0, .agg #[.int .i64 0, .slice none 0 0, .bool false, .slice none 0 0, .slice none 0 0]], []⟩).memory Tryz.f3.params.toList Rows.fnFrameCreateTopicsRequestSpec.vars false #[Value.int .u8 0, .agg #[.bool false, .string ⟨#[]⟩], .int .i32 0, .agg #[.int .i64 0, .slice none 0 0, .bool false, .slice none 0 0, .slice none 0 0]].toList 8 = some ([.lit (.int .u8 0), .agg [.lit (.bool false), .lit (.string [])], .lit (.int .i32 0), .agg [.lit (.int .i64 0), .nil, .lit (.bool false), .nil, .nil]], [], places) := ⟨[], by kernel_rfl⟩
set_option maxRecDepth 100000 in
theorem lifted (os : Os) (started : os.Started) (H : Type) (enc : TypeId × Value → H) (F : Stop.Interp) :
    ReturnsInHanded {} Tryz.checked os 3 .any ((Rows.OpenSpec.upto Rows.fnFrameCreateTopicsRequestSpec).preRow enc Tryz.prog Tryz.f3 Rows.fnFrameCreateTopicsRequestUptoRow.domain false Rows.fnFrameCreateTopicsRequestUptoRow.laid) (((Rows.OpenSpec.upto Rows.fnFrameCreateTopicsRequestSpec).at F).post enc Tryz.prog Tryz.f3 false true false false) := by
  obtain ⟨places, hx⟩ := VQ os enc
  refine returnsInHanded_of_row (C := Tryz.checked) (s := Rows.OpenSpec.upto Rows.fnFrameCreateTopicsRequestSpec) own started (by kernel_rfl) Tryz.func3
    (witness_row_atRef (enc := enc) (C := Tryz.checked) false (Yf2 os) #[.int .u8 0, .agg #[.bool false, .string ⟨#[]⟩], .int .i32 0, .agg #[.int .i64 0, .slice none 0 0, .bool false, .slice none 0 0, .slice none 0 0]] rfl (by kernel_rfl) (by kernel_rfl) (by kernel_rfl)
      (OpenSpec.preRow_of_cond 8 hx (by kernel_rfl) (fun k hk => by cases hk; kernel_rfl) (by kernel_rfl) (laidWorld_met os _))) ?_
  intro W base args ds gs before hval0 hW _ hcond _ hL _ _
  have hsmall := of_decide_eq_true (hcond _ rfl)
  suffices key : Calls Tryz.prog 3 args W fun e W' => ∃ v, e = .returned v ∧ Rows.fnFrameCreateTopicsRequestSpec.post enc Tryz.prog Tryz.f3 false true false false W args v W' from key
  have hval : ∀ (j : Nat) t v, Tryz.f3.params[j]? = some t → args[j]? = some v → Value.okWide Tryz.prog W .any base t v := hval0
  have hW' := hW
  obtain ⟨p, q, hA0, hV, rfl, hfz, hnd⟩ := hW
  have hA : DataW.TrodAll enc Tryz.prog W 0 (fun _ => true) true Tryz.f3.params.toList args.toList ds p := hA0
  rw [Tryz.params3] at hA hval
  obtain ⟨v0, v1, v2, v3, d0, d1, d2, d3, p0, p1, p2, p3, rfl, rfl, rfl, h0, h1, h2, h3⟩ := trodAll_four hA
  obtain ⟨rfl, rfl⟩ := trodVars_none hV
  obtain ⟨a, rfl, rfl, rfl, wa⟩ := open_int Tryz.underlying5 (hval 0 5 v0 rfl rfl) h0
  have hv1 := hval 1 23 v1 rfl rfl
  unfold Value.okWide at hv1
  rw [Tryz.underlying23] at hv1
  obtain ⟨ci, rfl, _⟩ := hv1
  obtain ⟨fuel1, hf1⟩ := id h1
  obtain ⟨has, idt, hci⟩ := open_id hf1
  obtain rfl : ci = #[.bool has, .string idt] := by apply Array.ext'; exact hci
  obtain ⟨a2, rfl, rfl, rfl, wa2⟩ := open_int Tryz.underlying21 (hval 2 21 v2 rfl rfl) h2
  have hv3 := hval 3 28 v3 rfl rfl
  unfold Value.okWide at hv3
  rw [Tryz.underlying28] at hv3
  obtain ⟨cs, rfl, _⟩ := hv3
  obtain ⟨fuel, hfu⟩ := id h3
  obtain ⟨t, hrep, hok, hwt⟩ := open_tree fuel _ _ hfu
  obtain ⟨ev, hev⟩ := err_of_laid hL
  clear hA0 hval0
  simp only [List.append_nil, List.nil_append] at hW'
  have ha : 0 ≤ a ∧ a ≤ 255 := by simpa [Lit.wf, IntKind.min, IntKind.max, IntKind.signed, IntKind.bits] using wa
  have ha2 : -2147483648 ≤ a2 ∧ a2 ≤ 2147483647 := by simpa [Lit.wf, IntKind.min, IntKind.max, IntKind.signed, IntKind.bits] using wa2
  have hsm : t.wt ≤ 1048576 := by simp only [List.append_nil, List.cons_append, List.nil_append, Rows.uptoBulkAll] at hsmall; simp only [] at hwt; omega
  have hlaw := fn_law a.toNat (by omega) has idt a2 (by rw [IntKind.wrap_i32]; omega) t hok hsm W ev cs.toList hrep hev
  rw [show ((a.toNat : Nat) : Int) = a from by omega] at hlaw
  simp only [Array.toArray_toList] at hlaw
  refine Calls.mono hlaw fun e W' he => ?_
  obtain ⟨v, rfl, hb, rfl⟩ := he
  refine ⟨_, rfl, _, _, _, [], ([] ++ p1 ++ p3), [], hW', trodAll_mk1 (shut_bool Tryz.underlying4 _), ?_, ?_, hb.frame _, fun h => by cases h⟩
  · exact trodAll_mk4 (shut_int Tryz.underlying5 wa) (Below.trod laidOut (by kernel_rfl) (Nat.le_of_ble_eq_true (by kernel_rfl)) h1 hb (fun x hx => hW'.lt x (List.mem_append_left _ hx))) (shut_int Tryz.underlying21 wa2) (Below.trod laidOut (by kernel_rfl) (Nat.le_of_ble_eq_true (by kernel_rfl)) h3 hb (fun x hx => hW'.lt x (List.mem_append_right _ hx)))
  · rfl


theorem said : Rows.FnFrameCreateTopicsRequestUptoSaid :=
  OpenClaim.holds_of_cond 3 Tryz.f3 rfl rfl rfl rfl rfl rfl rfl ⟨rfl, rfl, rfl, rfl, rfl⟩ rfl rfl rfl rfl rfl (by kernel_rfl) Tryz.func3 (by kernel_rfl)
    (of_decide_eq_true (by kernel_rfl)) (by unfold Func.isWrapper; first | (rw [if_pos (by decide +kernel)]; kernel_rfl) | (rw [if_neg (by decide +kernel)]; exact ⟨rfl, rfl⟩))
    (fun os started H enc _ F => by rw [OpenClaim.pre_eq_preRow]; exact lifted os started H enc F)

theorem row_tie : Rows.fnFrameCreateTopicsRequestUptoRow.laidByTextAt .later Tryz.pinned [.sentinel] true :=
  OpenClaim.laidByTextAt_later rfl rfl tie (by kernel_rfl)
theorem holds : Rows.FnFrameCreateTopicsRequestUptoCardSaid :=
  Claim7.holds_tied_plain_at .later [] [.sentinel] true (true, "98487678909aa2058ba797c66b9a620cb6c645f78653e8cdc239c0107aca970e") false
    said (fun _ h => by cases h) (by kernel_rfl) (fun _ h => by cases h) row_tie rfl ⟨rfl, rfl⟩ (by kernel_rfl) rfl
    (fun f fn hf hfn => by
      obtain rfl : f = 3 := Option.some.inj ((show Tryz.prog.funcNamed "pub-mailsack/laws.FnFrameCreateTopicsRequest" = some 3 by kernel_rfl).symm.trans hf) |>.symm
      obtain rfl : fn = Tryz.f3 := (Option.some.inj (Tryz.func3.symm.trans hfn)).symm
      exact ⟨by kernel_rfl, fun j t ht => by
        rw [Tryz.params3] at ht
        have hh : Tryz.prog.wantsStandIn 5 = false ∧ Tryz.prog.wantsStandIn 23 = false ∧ Tryz.prog.wantsStandIn 21 = false ∧ Tryz.prog.wantsStandIn 28 = false := ⟨by kernel_rfl, by kernel_rfl, by kernel_rfl, by kernel_rfl⟩
        match j, ht with
        | 0, ht => obtain rfl : 5 = t := by simpa using ht
                   exact hh.1
        | 1, ht => obtain rfl : 23 = t := by simpa using ht
                   exact hh.2.1
        | 2, ht => obtain rfl : 21 = t := by simpa using ht
                   exact hh.2.2.1
        | 3, ht => obtain rfl : 28 = t := by simpa using ht
                   exact hh.2.2.2
        | j + 4, ht => simp at ht⟩)
    (by kernel_rfl)
end Go.Proofs.YtmihblfjhoblmaaGreatDoor.BCreateTopicsRequest
