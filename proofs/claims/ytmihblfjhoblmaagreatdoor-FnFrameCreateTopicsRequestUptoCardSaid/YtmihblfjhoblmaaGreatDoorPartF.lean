/- A part of the proof of FnFrameCreateTopicsRequestUptoCardSaid: what its texts prove stands at the head of each. Conditions: those that each theorem names. -/
import Derived.Test.YtmihblfjhoblmaaGreatDoorPartE
import Derived.Test.YtmihblfjhoblmaaGreatDoorPartA
import Derived.Test.YtmihblfjhoblmaaGreatDoorPartD
import Derived.Lib.ConvBytes
set_option linter.all false
/- What the reference writes of a part, given what it writes of a field. -/
namespace Go.Proofs.YtmihblfjhoblmaaGreatDoor
open Go Go.RowKit

theorem wFs_drop (ver : Int) (flex : Bool) (fs : List Fld) (t : Tree) {i : Nat} (hi : i < fs.length) : wFs ver flex (fs.drop i) i t =
    (if fs[i].tag < 0 ∧ fs[i].has ver = true then Xk ver flex fs[i] (att t i) else []) ++ wFs ver flex (fs.drop (i + 1)) (i + 1) t := by
  rw [List.drop_eq_getElem_cons hi]
  simp only [wFs]
theorem wTs_drop (ver : Int) (flex : Bool) (fs : List Fld) (k : Nat) (t : Tree) {i : Nat} (hi : i < fs.length) : wTs ver flex (fs.drop i) i k t =
    (if fs[i].tag = (k : Int) ∧ usual fs[i] (att t i) = false then [(k, Xk ver flex fs[i] (att t i))] else []) ++ wTs ver flex (fs.drop (i + 1)) (i + 1) k t := by
  rw [List.drop_eq_getElem_cons hi]
  simp only [wTs]
def Yc0 (l : List (Nat × List UInt8)) : List UInt8 := l.flatMap fun kv => Jj kv.1 kv.2
theorem Xp (a b : List (Nat × List UInt8)) : Yc0 (a ++ b) = Yc0 a ++ Yc0 b := by simp [Yc0]
theorem Ye2 (k : Nat) (b : List UInt8) : Yc0 [(k, b)] = Jj k b := by simp [Yc0]
theorem tagB_len (l : List (Nat × List UInt8)) : l.length ≤ (Yc0 l).length := by
  induction l with
  | nil => simp
  | cons a l ih =>
    have : Yc0 (a :: l) = Jj a.1 a.2 ++ Yc0 l := by simp [Yc0]
    rw [this]
    have := uvar_pos a.1
    simp only [List.length_cons, List.length_append, Jj]; omega
theorem wTag_len (k : Nat) (b : List UInt8) : b.length ≤ (Jj k b).length := by simp [Jj]; omega
/-- The tags of the fields with tags below m. -/
def below (ver : Int) (flex : Bool) (fs : List Fld) (t : Tree) (m : Nat) : List (Nat × List UInt8) := (List.range m).flatMap fun k => wTs ver flex fs 0 k t
theorem Yb8 (ver : Int) (flex : Bool) (fs : List Fld) (t : Tree) (m : Nat) : below ver flex fs t (m + 1) = below ver flex fs t m ++ wTs ver flex fs 0 m t := by
  simp [below, List.range_succ]
theorem below_le (ver : Int) (flex : Bool) (fs : List Fld) (t : Tree) {m n : Nat} (h : m ≤ n) : (Yc0 (below ver flex fs t m)).length ≤ (Yc0 (below ver flex fs t n)).length := by
  induction n with
  | zero => have : m = 0 := by omega
            subst this; exact Nat.le_refl _
  | succ n ih =>
    by_cases h1 : m = n + 1
    · subst h1; exact Nat.le_refl _
    · have := ih (by omega)
      rw [Yb8, Xp, List.length_append]; omega

theorem US (ver : Int) (flex : Bool) (fs : List Fld) (t : Tree) : XR ver flex fs t = below ver flex fs t (YH fs) ++ Xs fs t.u := rfl
theorem wPart_false (ver : Int) (fs : List Fld) (t : Tree) : YM ver false fs t = wFs ver false fs 0 t := rfl
theorem Ya3 (ver : Int) (fs : List Fld) (t : Tree) : YM ver true fs t = wFs ver true fs 0 t ++ (uvar (XR ver true fs t).length ++ Yc0 (XR ver true fs t)) := rfl
theorem putTag_mem (k : Nat) (v : List UInt8) (l : List (Nat × List UInt8)) : ∀ x ∈ YS k v l, x = (k, v) ∨ x ∈ l := by
  induction l with
  | nil => intro x hx; simp [YS] at hx; exact .inl hx
  | cons a l ih =>
    intro x hx
    simp only [YS] at hx
    split at hx
    · rcases List.mem_cons.1 hx with rfl | h
      · exact .inr (by simp)
      · rcases ih x h with h | h
        · exact .inl h
        · exact .inr (by simp [h])
    · split at hx
      · exact .inr hx
      · rcases List.mem_cons.1 hx with rfl | h
        · exact .inl rfl
        · exact .inr h
theorem unknown_mem (fs : List Fld) (u : List (Nat × List UInt8)) : ∀ x ∈ YZ fs u, x ∈ u := by
  have : ∀ (l out : List (Nat × List UInt8)), ∀ x ∈ l.foldl (step (YH fs)) out, x ∈ out ∨ x ∈ l := by
    intro l
    induction l with
    | nil => intro out x hx; exact .inl hx
    | cons a l ih =>
      intro out x hx
      rcases ih _ x hx with h | h
      · unfold step at h
        split at h
        · exact .inl h
        · rcases putTag_mem _ _ _ x h with rfl | h
          · exact .inr (by simp)
          · exact .inl h
      · exact .inr (by simp [h])
  intro x hx
  rcases this (u.take XQ) [] x hx with h | h
  · cases h
  · exact List.mem_of_mem_take h
theorem unknown_len (fs : List Fld) (u : List (Nat × List UInt8)) : (YZ fs u).length ≤ 32767 := by
  have := VO (YH fs) (u.take XQ) []
  simp only [List.length_nil, List.length_take, Nat.zero_add] at this
  exact Nat.le_trans this (Nat.min_le_left _ _)

theorem apart_of {v d : Value} {n : Nat} (hv : ∀ g, v.ownBlock = some g → n ≤ g) (hd : ∀ g, d.ownBlock = some g → g < n) : v.ownBlock = none ∨ v.ownBlock ≠ d.ownBlock := by
  cases h : v.ownBlock with
  | none => exact .inl rfl
  | some g => exact .inr (fun e => by have h1 := hv g h; have h2 := hd g e.symm; omega)
/-- What lies apart from a slice that grows stays as it is, and apart. -/
theorem Own.apart {w w' : World} {B u8 : Nat} {v d d' : Value} {ys : List UInt8} (hv : Own w B u8 v ys) (hd : v.ownBlock = none ∨ v.ownBlock ≠ d.ownBlock) (hg : Grew w w' d d') : Own w' B u8 v ys ∧ (v.ownBlock = none ∨ v.ownBlock ≠ d'.ownBlock) := by
  refine ⟨hv.kept hg.grown hd, ?_⟩
  rcases hd with h | h
  · exact .inl h
  · rcases hg.fresh with hf | hf
    · exact .inr (by rw [hf]; exact h)
    · cases hvb : v.ownBlock with
      | none => exact .inl rfl
      | some g => exact .inr (fun e => by have h1 := hf g e.symm; have h2 := hv.lt g hvb; omega)
theorem does_pick {P : Program} {N : Nat} {L : Sl} {a : Act} {w : World} {d : Option Nat} {ty : TypeId} {pos : String} {aft : Array Edge} {g : Option (Nat × Bool)} {c x y : Operand} {b : Bool} {v : Value} {R : Value → World → Prop} (k : Kn N a L) (hc : ev L c = some (.bool b)) (hv : ev L (bif b then x else y) = some v) (h : R v w) : Does P ⟨d, .pick c x y, ty, pos, aft, g⟩ a w R := Yc3 (UB k hc hv) h
theorem Below.between {n : Nat} {a b c : World} (h : Below n a b) (k : Below n a c) (hs : b.heap.size ≤ c.heap.size) : Below n b c :=
  ⟨k.os.trans h.os.symm, k.tape.trans h.tape.symm, k.output.trans h.output.symm, hs, fun i hi => (k.block i hi).trans (h.block i hi).symm⟩
structure PtS where
  i : Nat
  d : Value
  xs : List UInt8
structure PtT where
  k : Nat
  d : Value
  l : List (Nat × List UInt8)
section
set_option maxRecDepth 100000
theorem part_of (fs : List Fld) (hfs : Yb7 fs = true) (hF : ∀ f ∈ fs, FieldOK f) (hU : ∀ f ∈ fs, Yh8 f) : PartOK fs := by
  intro flex ver t B w fv ts hok hB hf ht hlim
  obtain ⟨sv2, lv, uv, rfl, hs, hl, hu⟩ := XO ht
  obtain ⟨fa, fc, rfl, _⟩ := hf.shape
  have hn := Yb7.len hfs
  rw [List.length_map] at *
  have hFs : (wFs ver flex fs 0 t).length ≤ lim := by
    cases flex
    · exact hlim
    · rw [Ya3, List.length_append] at hlim; omega
  refine enter Tryz.func18 rfl Tryz.ntmps18 rfl ?_
  repeat first|(with_reducible first|apply Yk|apply Yd|apply Ym|apply Yj|apply Yh|apply Yi|apply Yn|apply Yl|apply Ye|apply Yg|apply Yr|apply Yc|apply Yf|apply Yb|apply Ya)|((with_reducible apply ws);exact rfl;exact rfl)|((with_reducible apply Yo);exact rfl;exact rfl;exact rfl)|((with_reducible apply Yq);exact rfl;exact rfl;exact rfl;exact rfl)|((with_reducible apply Yp);exact rfl;exact rfl;exact rfl)
  refine Xt rfl rfl rfl (fun w1 hb1 hg1 hs1 => ?_)
  have hw1 : Below w.heap.size w w1 := Yx hg1 (Nat.le_refl _) (by simp)
  refine YA rfl rfl (Ym (Yj ?_))
  refine Yk (Yd ?_)
  repeat first|((with_reducible apply ws);exact rfl;exact rfl)|((with_reducible apply Yo);exact rfl;exact rfl;exact rfl)|((with_reducible apply Yq);exact rfl;exact rfl;exact rfl;exact rfl)|((with_reducible apply Yp);exact rfl;exact rfl;exact rfl)
  refine Ym (Yj (Yk (Yd ?_)))
  repeat first|((with_reducible apply ws);exact rfl;exact rfl)|((with_reducible apply Yo);exact rfl;exact rfl;exact rfl)|((with_reducible apply Yq);exact rfl;exact rfl;exact rfl;exact rfl)|((with_reducible apply Yp);exact rfl;exact rfl;exact rfl)
  refine Ym (Yj ?_)
  refine Yf4 (α := PtS) (fun s => [(9, s.d), (10, .slice none 0 0), (11, .int .i64 0), (7, .pointer (some ⟨w.heap.size, 0, none⟩)), (2, .bool flex), (1, .int .i64 ver), (0, .slice fa fs.length fc)])
    (fun s w' => Below w1.heap.size w1 w' ∧ Own w' w1.heap.size 5 s.d (wFs ver flex fs 0 t)) ?_ ?_
  · repeat first|(with_reducible first|apply Yk|apply Yd|apply Ym|apply Yj|apply Yh|apply Yi|apply Yn|apply Yl|apply Ye|apply Yg|apply Yr|apply Yc|apply Yf|apply Yb|apply Ya)|((with_reducible apply ws);exact rfl;exact rfl)|((with_reducible apply Yo);exact rfl;exact rfl;exact rfl)|((with_reducible apply Yq);exact rfl;exact rfl;exact rfl;exact rfl)|((with_reducible apply Yp);exact rfl;exact rfl;exact rfl)
    refine XH (α := PtS) (fun s => [(23, .int .i64 (s.i : Int)), (22, .int .i64 (fs.length : Int)), (21, .slice fa fs.length fc), (9, s.d), (10, .slice none 0 0), (11, .int .i64 0), (7, .pointer (some ⟨w.heap.size, 0, none⟩)), (2, .bool flex), (1, .int .i64 ver), (0, .slice fa fs.length fc)])
      (fun s w' => s.i ≤ fs.length ∧ Below w1.heap.size w1 w' ∧ Own w' w1.heap.size 5 s.d s.xs ∧ s.xs ++ wFs ver flex (fs.drop s.i) s.i t = wFs ver flex fs 0 t) (fun s => fs.length - s.i) ⟨0, .slice none 0 0, []⟩ ⟨rfl, rfl, rfl, rfl, rfl, rfl, rfl, rfl, rfl, rfl, trivial⟩ ⟨Nat.zero_le _, Below.refl _ _, Own.nil _ _ _, rfl⟩ ?_
    rintro ⟨i, d, xs⟩ w2 ⟨hi, hw2, ho2, hx⟩
    simp only [] at hi ho2 hx
    change WC _ _ _ _ [(23, .int .i64 (i : Int)), (22, .int .i64 (fs.length : Int)), (21, .slice fa fs.length fc), (9, d), (10, .slice none 0 0), (11, .int .i64 0), (7, .pointer (some ⟨w.heap.size, 0, none⟩)), (2, .bool flex), (1, .int .i64 ver), (0, .slice fa fs.length fc)] _
    have hw02 : Below w.heap.size w w2 := hw1.trans (hw2.mono (by omega))
    repeat first|(with_reducible first|apply Yk|apply Yd|apply Ym|apply Yj|apply Yh|apply Yi|apply Yn|apply Yl|apply Ye|apply Yg|apply Yr|apply Yc|apply Yf|apply Yb|apply Ya)|((with_reducible apply ws);exact rfl;exact rfl)|((with_reducible apply Yo);exact rfl;exact rfl;exact rfl)|((with_reducible apply Yq);exact rfl;exact rfl;exact rfl;exact rfl)|((with_reducible apply Yp);exact rfl;exact rfl;exact rfl)
    by_cases hlt : i < fs.length
    · refine Yz rfl (by simpa using hlt) ?_
      obtain ⟨b, off, c', cs, hv, _, hcs, hlen, hr⟩ := (hf.below (hw02.mono hB) (Nat.le_refl _)).get (sz := 8) (i := i) (by intro d hd; obtain ⟨x, _, rfl⟩ := List.mem_map.1 hd; exact UP x) (by simpa using hlt)
      simp only [Value.slice.injEq, List.length_map] at hv
      obtain ⟨rfl, _, rfl⟩ := hv
      simp only [List.getElem_map] at hr
      obtain ⟨hone, _⟩ := fld_one hr
      obtain ⟨sv, hce, _⟩ := VH hr
      subst hce
      have hdr := wFs_drop ver flex fs t hlt
      repeat first|(with_reducible first|apply Yk|apply Yd|apply Ym|apply Yj|apply Yh|apply Yi|apply Yn|apply Yl|apply Ye|apply Yg|apply Yr|apply Yc|apply Yf|apply Yb|apply Ya)|((with_reducible apply ws);exact rfl;exact rfl)|((with_reducible apply Yo);exact rfl;exact rfl;exact rfl)|((with_reducible apply Yq);exact rfl;exact rfl;exact rfl;exact rfl)|((with_reducible apply Yp);exact rfl;exact rfl;exact rfl)
      refine YD rfl rfl es_flds rfl hlt ?_
      refine XP (cs := [.int .i64 fs[i].kind, .int .i64 fs[i].fr, .int .i64 fs[i].upto, .int .i64 fs[i].nul, .int .i64 fs[i].tag, .int .i64 fs[i].df, .int .i64 fs[i].of, sv]) rfl ta_fld rfl (fun j v e => hcs.cell e) ?_
      refine Xu zv_fld rfl rfl (fun w3 hb3 hg3 hs3 => ?_)
      repeat first|(with_reducible first|apply Yk|apply Yd|apply Ym|apply Yj|apply Yh|apply Yi|apply Yn|apply Yl|apply Ye|apply Yg|apply Yr|apply Yc|apply Yf|apply Yb|apply Ya)|((with_reducible apply ws);exact rfl;exact rfl)|((with_reducible apply Yo);exact rfl;exact rfl;exact rfl)|((with_reducible apply Yq);exact rfl;exact rfl;exact rfl;exact rfl)|((with_reducible apply Yp);exact rfl;exact rfl;exact rfl)
      refine Xg (vs := [.int .i64 fs[i].kind, .int .i64 fs[i].fr, .int .i64 fs[i].upto, .int .i64 fs[i].nul, .int .i64 fs[i].tag, .int .i64 fs[i].df, .int .i64 fs[i].of, sv]) rfl rfl rfl tz_fld hone hb3 rfl (fun w4 hb4 hg4 hs4 => ?_)
      have hw24 : Below w2.heap.size w2 w4 := (Yx hg3 (Nat.le_refl _) (by simp)).trans (Yx hg4 (by omega) (by intro k hk; simp at hk; omega))
      have hs12 := hw2.size
      have hw14 : Below w1.heap.size w1 w4 := hw2.trans (hw24.mono hs12)
      have hw04 : Below w.heap.size w w4 := hw02.trans (hw24.mono (by omega))
      have ho4 := ho2.below hw24
      have hB4 : B ≤ w4.heap.size := by omega
      repeat first|(with_reducible first|apply Yk|apply Yd|apply Ym|apply Yj|apply Yh|apply Yi|apply Yn|apply Yl|apply Ye|apply Yg|apply Yr|apply Yc|apply Yf|apply Yb|apply Ya)|((with_reducible apply ws);exact rfl;exact rfl)|((with_reducible apply Yo);exact rfl;exact rfl;exact rfl)|((with_reducible apply Yq);exact rfl;exact rfl;exact rfl;exact rfl)|((with_reducible apply Yp);exact rfl;exact rfl;exact rfl)
      refine Yv rfl to_int rfl hb4 rfl ?_
      repeat first|(with_reducible first|apply Yk|apply Yd|apply Ym|apply Yj|apply Yh|apply Yi|apply Yn|apply Yl|apply Ye|apply Yg|apply Yr|apply Yc|apply Yf|apply Yb|apply Ya)|((with_reducible apply ws);exact rfl;exact rfl)|((with_reducible apply Yo);exact rfl;exact rfl;exact rfl)|((with_reducible apply Yq);exact rfl;exact rfl;exact rfl;exact rfl)|((with_reducible apply Yp);exact rfl;exact rfl;exact rfl)
      by_cases htag : fs[i].tag < 0
      · have e1 : decide (fs[i].tag < 0) = true := by simpa using htag
        rw [e1]
        repeat first|(with_reducible first|apply Yk|apply Yd|apply Ym|apply Yj|apply Yh|apply Yi|apply Yn|apply Yl|apply Ye|apply Yg|apply Yr|apply Yc|apply Yf|apply Yb|apply Ya)|((with_reducible apply ws);exact rfl;exact rfl)|((with_reducible apply Yo);exact rfl;exact rfl;exact rfl)|((with_reducible apply Yq);exact rfl;exact rfl;exact rfl;exact rfl)|((with_reducible apply Yp);exact rfl;exact rfl;exact rfl)
        refine YW (cs := [.int .i64 fs[i].kind, .int .i64 fs[i].fr, .int .i64 fs[i].upto, .int .i64 fs[i].nul, .int .i64 fs[i].tag, .int .i64 fs[i].df, .int .i64 fs[i].of, sv]) rfl ta_fld rfl hb4 ?_
        repeat first|(with_reducible first|apply Yk|apply Yd|apply Ym|apply Yj|apply Yh|apply Yi|apply Yn|apply Yl|apply Ye|apply Yg|apply Yr|apply Yc|apply Yf|apply Yb|apply Ya)|((with_reducible apply ws);exact rfl;exact rfl)|((with_reducible apply Yo);exact rfl;exact rfl;exact rfl)|((with_reducible apply Yq);exact rfl;exact rfl;exact rfl;exact rfl)|((with_reducible apply Yp);exact rfl;exact rfl;exact rfl)
        refine Yu rfl (by kernel_rfl) rfl ((fn_has fs[i] ver B w4 hB4 _ (Rep.below hr (hw24.mono (by omega)) (Nat.le_refl _))).mono ?_)
        rintro e w5 ⟨v, rfl, hw5, rfl⟩
        refine ⟨_, rfl, ?_⟩
        have hb5 := hb4.below hw5 hb4.lt
        have hs45 := hw5.size
        have hw15 := hw14.trans (hw5.mono (by omega))
        have hw05 := hw04.trans (hw5.mono (by omega))
        have ho5 := ho4.below hw5
        repeat first|(with_reducible first|apply Yk|apply Yd|apply Ym|apply Yj|apply Yh|apply Yi|apply Yn|apply Yl|apply Ye|apply Yg|apply Yr|apply Yc|apply Yf|apply Yb|apply Ya)|((with_reducible apply ws);exact rfl;exact rfl)|((with_reducible apply Yo);exact rfl;exact rfl;exact rfl)|((with_reducible apply Yq);exact rfl;exact rfl;exact rfl;exact rfl)|((with_reducible apply Yp);exact rfl;exact rfl;exact rfl)
        cases hh : fs[i].has ver
        · refine YE rfl rfl ?_
          repeat first|(with_reducible first|apply Yk|apply Yd|apply Ym|apply Yj|apply Yh|apply Yi|apply Yn|apply Yl|apply Ye|apply Yg|apply Yr|apply Yc|apply Yf|apply Yb|apply Ya)|((with_reducible apply ws);exact rfl;exact rfl)|((with_reducible apply Yo);exact rfl;exact rfl;exact rfl)|((with_reducible apply Yq);exact rfl;exact rfl;exact rfl;exact rfl)|((with_reducible apply Yp);exact rfl;exact rfl;exact rfl)
          refine Xm rfl rfl rfl (r := ((i + 1 : Nat) : Int)) (by rw [IntKind.wrap_i64]; omega) ?_
          repeat first|(with_reducible first|apply Yk|apply Yd|apply Ym|apply Yj|apply Yh|apply Yi|apply Yn|apply Yl|apply Ye|apply Yg|apply Yr|apply Yc|apply Yf|apply Yb|apply Ya)|((with_reducible apply ws);exact rfl;exact rfl)|((with_reducible apply Yo);exact rfl;exact rfl;exact rfl)|((with_reducible apply Yq);exact rfl;exact rfl;exact rfl;exact rfl)|((with_reducible apply Yp);exact rfl;exact rfl;exact rfl)
          refine YU ⟨i + 1, d, xs⟩ ⟨rfl, rfl, rfl, rfl, rfl, rfl, rfl, rfl, rfl, rfl, trivial⟩ ⟨by simp only []; omega, hw15, ho5, ?_⟩ (by simp only []; omega)
          rw [hdr, if_neg (by rw [hh]; simp)] at hx
          exact hx
        · refine Yz rfl rfl ?_
          rw [hdr, if_pos ⟨htag, hh⟩] at hx
          have hxl := congrArg List.length hx
          simp only [List.length_append] at hxl
          repeat first|(with_reducible first|apply Yk|apply Yd|apply Ym|apply Yj|apply Yh|apply Yi|apply Yn|apply Yl|apply Ye|apply Yg|apply Yr|apply Yc|apply Yf|apply Yb|apply Ya)|((with_reducible apply ws);exact rfl;exact rfl)|((with_reducible apply Yo);exact rfl;exact rfl;exact rfl)|((with_reducible apply Yq);exact rfl;exact rfl;exact rfl;exact rfl)|((with_reducible apply Yp);exact rfl;exact rfl;exact rfl)
          have hw25 : Below w2.heap.size w2 w5 := hw24.trans (hw5.mono (by omega))
          refine Vb [(0, d), (1, .agg ([.int .i64 fs[i].kind, .int .i64 fs[i].fr, .int .i64 fs[i].upto, .int .i64 fs[i].nul, .int .i64 fs[i].tag, .int .i64 fs[i].df, .int .i64 fs[i].of, sv] : List Value).toArray), (2, .int .i64 ver), (3, .bool flex), (4, .agg ([.int .i64 t.n, sv2, .bool t.nul, lv, uv] : List Value).toArray), (5, .int .i64 (i : Int))] [9, 8, 7, 6]
            (fun vals w' => Below w1.heap.size w1 w' ∧ Box w' w2.heap.size [.int .i64 fs[i].kind, .int .i64 fs[i].fr, .int .i64 fs[i].upto, .int .i64 fs[i].nul, .int .i64 fs[i].tag, .int .i64 fs[i].df, .int .i64 fs[i].of, sv] 51 ∧ match vals with
              | [] => Below w5.heap.size w5 w'
              | [v] => Below w5.heap.size w5 w' ∧ ∃ xs' : List Value, v = .agg xs'.toArray ∧ Rep (Lo B) w' (treeD (att t i)) xs'
              | [v, _] => Below w5.heap.size w5 w' ∧ Own w' w5.heap.size 5 v (Xk ver flex fs[i] (att t i))
              | v :: _ => Own w' w1.heap.size 5 v (xs ++ Xk ver flex fs[i] (att t i)))
            mixed rfl rfl rfl rfl rfl (by show ([0,1,2,3,4,5] : List Nat).Nodup; decide) rfl rfl (by decide) rfl rfl rfl rfl ⟨hw15.drew, hb5, (Below.refl _ w5).drew⟩ ?_ ⟨?_, ?_, ?_, ?_, trivial⟩ ?_
          · intro p hp vals w' hC a k
            simp only [List.mem_cons, List.not_mem_nil, or_false] at hp
            rcases hp with rfl | rfl | rfl | rfl | rfl | rfl
            · exact gv rfl rfl (YC k rfl)
            · exact gv rfl rfl (XC k rfl ta_fld hC.2.1)
            · exact gv rfl rfl (YC k rfl)
            · exact gv rfl rfl (YC k rfl)
            · exact gv rfl rfl (XC k rfl ta_tree (hb1.below hC.1 (by omega)))
            · exact gv rfl rfl (YC k rfl)
          · rintro vals w' hvl ⟨hb', hbx', hC⟩ a k
            match vals, hvl with
            | [v8, v7, v6], _ => exact ⟨_, rfl, XK k rfl ⟨hb', hbx', hC⟩⟩
          · rintro vals w' hvl ⟨hb', hbx', hC⟩ a k
            match vals, hvl with
            | [v7, v6], _ =>
              obtain ⟨hb5', ho7⟩ := hC
              have hod := ho5.below hb5'
              refine ⟨_, rfl, Ya1 k tb_bytes tb_bytes rfl rfl ho7.bytes hod (by have := hb'.size; omega) (by omega) (fun d' w'' ho'' hg'' => ⟨hb'.trans (hg''.below hb'.size hod.ge), hbx'.kept hg''.grown ?_, ho''⟩)⟩
              intro e
              have := ho2.lt _ e.symm
              omega
          · rintro vals w' hvl ⟨hb', hbx', hC⟩ a k
            match vals, hvl with
            | [v6], _ =>
              obtain ⟨hb5', xs', rfl, hxr⟩ := hC
              have hs5' := hb5'.size
              refine ⟨_, rfl, YQ k rfl (by kernel_rfl) ((hF fs[i] (List.getElem_mem hlt) flex ver (att t i) B w' _ _ (hok.at i) (by omega) (Rep.below hr ((hw25.trans (hb5'.mono (by omega))).mono (by omega)) (Nat.le_refl _)) hxr (by omega)).mono ?_)⟩
              rintro e w'' ⟨v, rfl, hb'', ho⟩
              exact ⟨_, rfl, hb'.trans (hb''.mono hb'.size), hbx'.below hb'' hbx'.lt, hb5'.trans (hb''.mono hs5'), ho.mono hs5'⟩
          · rintro vals w' hvl ⟨hb', hbx', hC⟩ a k
            match vals, hvl with
            | [], _ =>
              simp only [] at hC
              have hs5' := hC.size
              refine ⟨_, rfl, YQ k rfl (by kernel_rfl) ((fn_at t i B w' (by omega) _ (Rep.below ht ((hw05.trans (hC.mono (by omega))).mono hB) (Nat.le_refl _))).mono ?_)⟩
              rintro e w'' ⟨v, rfl, hb'', xs', rfl, hxr⟩
              exact ⟨_, rfl, hb'.trans (hb''.mono hb'.size), hbx'.below hb'' hbx'.lt, hC.trans (hb''.mono hs5'), xs', rfl, hxr⟩
          · rintro vals w' hvl ⟨hb', hbx', hC⟩
            match vals, hvl with
            | [v9, v8, v7, v6], _ =>
              refine Yj ?_
              repeat first|(with_reducible first|apply Yk|apply Yd|apply Ym|apply Yj|apply Yh|apply Yi|apply Yn|apply Yl|apply Ye|apply Yg|apply Yr|apply Yc|apply Yf|apply Yb|apply Ya)|((with_reducible apply ws);exact rfl;exact rfl)|((with_reducible apply Yo);exact rfl;exact rfl;exact rfl)|((with_reducible apply Yq);exact rfl;exact rfl;exact rfl;exact rfl)|((with_reducible apply Yp);exact rfl;exact rfl;exact rfl)
              refine Xm rfl rfl rfl (r := ((i + 1 : Nat) : Int)) (by rw [IntKind.wrap_i64]; omega) ?_
              repeat first|(with_reducible first|apply Yk|apply Yd|apply Ym|apply Yj|apply Yh|apply Yi|apply Yn|apply Yl|apply Ye|apply Yg|apply Yr|apply Yc|apply Yf|apply Yb|apply Ya)|((with_reducible apply ws);exact rfl;exact rfl)|((with_reducible apply Yo);exact rfl;exact rfl;exact rfl)|((with_reducible apply Yq);exact rfl;exact rfl;exact rfl;exact rfl)|((with_reducible apply Yp);exact rfl;exact rfl;exact rfl)
              refine YU ⟨i + 1, v9, xs ++ Xk ver flex fs[i] (att t i)⟩ ⟨rfl, rfl, rfl, rfl, rfl, rfl, rfl, rfl, rfl, rfl, trivial⟩ ⟨by simp only []; omega, hb', hC, ?_⟩ (by simp only []; omega)
              rw [List.append_assoc]; exact hx
      · have e1 : decide (fs[i].tag < 0) = false := by simpa using htag
        rw [e1]
        repeat first|(with_reducible first|apply Yk|apply Yd|apply Ym|apply Yj|apply Yh|apply Yi|apply Yn|apply Yl|apply Ye|apply Yg|apply Yr|apply Yc|apply Yf|apply Yb|apply Ya)|((with_reducible apply ws);exact rfl;exact rfl)|((with_reducible apply Yo);exact rfl;exact rfl;exact rfl)|((with_reducible apply Yq);exact rfl;exact rfl;exact rfl;exact rfl)|((with_reducible apply Yp);exact rfl;exact rfl;exact rfl)
        refine YE rfl rfl ?_
        repeat first|(with_reducible first|apply Yk|apply Yd|apply Ym|apply Yj|apply Yh|apply Yi|apply Yn|apply Yl|apply Ye|apply Yg|apply Yr|apply Yc|apply Yf|apply Yb|apply Ya)|((with_reducible apply ws);exact rfl;exact rfl)|((with_reducible apply Yo);exact rfl;exact rfl;exact rfl)|((with_reducible apply Yq);exact rfl;exact rfl;exact rfl;exact rfl)|((with_reducible apply Yp);exact rfl;exact rfl;exact rfl)
        refine Xm rfl rfl rfl (r := ((i + 1 : Nat) : Int)) (by rw [IntKind.wrap_i64]; omega) ?_
        repeat first|(with_reducible first|apply Yk|apply Yd|apply Ym|apply Yj|apply Yh|apply Yi|apply Yn|apply Yl|apply Ye|apply Yg|apply Yr|apply Yc|apply Yf|apply Yb|apply Ya)|((with_reducible apply ws);exact rfl;exact rfl)|((with_reducible apply Yo);exact rfl;exact rfl;exact rfl)|((with_reducible apply Yq);exact rfl;exact rfl;exact rfl;exact rfl)|((with_reducible apply Yp);exact rfl;exact rfl;exact rfl)
        refine YU ⟨i + 1, d, xs⟩ ⟨rfl, rfl, rfl, rfl, rfl, rfl, rfl, rfl, rfl, rfl, trivial⟩ ⟨by simp only []; omega, hw14, ho4, ?_⟩ (by simp only []; omega)
        rw [hdr, if_neg (fun h => htag h.1)] at hx
        exact hx
    · refine YE rfl (by simpa using hlt) ?_
      repeat first|(with_reducible first|apply Yk|apply Yd|apply Ym|apply Yj|apply Yh|apply Yi|apply Yn|apply Yl|apply Ye|apply Yg|apply Yr|apply Yc|apply Yf|apply Yb|apply Ya)|((with_reducible apply ws);exact rfl;exact rfl)|((with_reducible apply Yo);exact rfl;exact rfl;exact rfl)|((with_reducible apply Yq);exact rfl;exact rfl;exact rfl;exact rfl)|((with_reducible apply Yp);exact rfl;exact rfl;exact rfl)
      refine Ul ⟨0, d, xs⟩ ⟨rfl, rfl, rfl, rfl, rfl, rfl, rfl, trivial⟩ ⟨hw2, ?_⟩
      rw [List.drop_of_length_le (by omega)] at hx
      simp only [wFs, List.append_nil] at hx
      rw [← hx]; exact ho2
  rintro ⟨_, out, _⟩ w2 ⟨hw2, ho2⟩
  simp only [] at ho2
  have hs12 := hw2.size
  have hw02 : Below w.heap.size w w2 := hw1.trans (hw2.mono (by omega))
  refine Yk (Yk (Yd ?_))
  repeat first|((with_reducible apply ws);exact rfl;exact rfl)|((with_reducible apply Yo);exact rfl;exact rfl;exact rfl)|((with_reducible apply Yq);exact rfl;exact rfl;exact rfl;exact rfl)|((with_reducible apply Yp);exact rfl;exact rfl;exact rfl)
  refine Ym (Yj ?_)
  cases flex
  · refine Yz rfl rfl ?_
    repeat first|(with_reducible first|apply Yk|apply Yd|apply Ym|apply Yj|apply Yh|apply Yi|apply Yn|apply Yl|apply Ye|apply Yg|apply Yr|apply Yc|apply Yf|apply Yb|apply Ya)|((with_reducible apply ws);exact rfl;exact rfl)|((with_reducible apply Yo);exact rfl;exact rfl;exact rfl)|((with_reducible apply Yq);exact rfl;exact rfl;exact rfl;exact rfl)|((with_reducible apply Yp);exact rfl;exact rfl;exact rfl)
    exact Yt rfl rfl ⟨_, rfl, hw02, by rw [wPart_false]; exact ho2.mono (by omega)⟩
  refine YE rfl rfl ?_
  refine Yi (Yj ?_)
  have hKn := known_le (Yb7.tag hfs)
  have hlimA := hlim
  rw [Ya3, US] at hlimA
  simp only [List.length_append, Xp] at hlimA
  refine Yf4 (α := PtT) (fun s => [(10, s.d), (11, .int .i64 (s.l.length : Int)), (9, out), (7, .pointer (some ⟨w.heap.size, 0, none⟩)), (2, .bool true), (1, .int .i64 ver), (0, .slice fa fs.length fc)])
    (fun s w' => Below w2.heap.size w2 w' ∧ Own w' w2.heap.size 5 s.d (Yc0 s.l) ∧ s.l = below ver true fs t (YH fs)) ?_ ?_
  · repeat first|(with_reducible first|apply Yk|apply Yd|apply Ym|apply Yj|apply Yh|apply Yi|apply Yn|apply Yl|apply Ye|apply Yg|apply Yr|apply Yc|apply Yf|apply Yb|apply Ya)|((with_reducible apply ws);exact rfl;exact rfl)|((with_reducible apply Yo);exact rfl;exact rfl;exact rfl)|((with_reducible apply Yq);exact rfl;exact rfl;exact rfl;exact rfl)|((with_reducible apply Yp);exact rfl;exact rfl;exact rfl)
    refine Yu rfl (by kernel_rfl) rfl ((fn_known _ fs B w2 (by omega) (hf.below (hw02.mono hB) (Nat.le_refl _)) (Yb7.tag hfs) (by omega)).mono ?_)
    rintro e w3 ⟨v, rfl, hw3, rfl⟩
    refine ⟨_, rfl, ?_⟩
    refine YB .i64 rfl ti_u32 ti_i64 rfl (r := (YH fs : Int)) (by rw [IntKind.wrap_i64]; omega) ?_
    repeat first|(with_reducible first|apply Yk|apply Yd|apply Ym|apply Yj|apply Yh|apply Yi|apply Yn|apply Yl|apply Ye|apply Yg|apply Yr|apply Yc|apply Yf|apply Yb|apply Ya)|((with_reducible apply ws);exact rfl;exact rfl)|((with_reducible apply Yo);exact rfl;exact rfl;exact rfl)|((with_reducible apply Yq);exact rfl;exact rfl;exact rfl;exact rfl)|((with_reducible apply Yp);exact rfl;exact rfl;exact rfl)
    refine XH (α := PtT) (fun s => [(52, .int .i64 (s.k : Int)), (51, .int .i64 (YH fs : Int)), (10, s.d), (11, .int .i64 (s.l.length : Int)), (9, out), (7, .pointer (some ⟨w.heap.size, 0, none⟩)), (2, .bool true), (1, .int .i64 ver), (0, .slice fa fs.length fc)])
      (fun s w' => s.k ≤ YH fs ∧ Below w2.heap.size w2 w' ∧ Own w' w2.heap.size 5 s.d (Yc0 s.l) ∧ s.l = below ver true fs t s.k) (fun s => YH fs - s.k) ⟨0, .slice none 0 0, []⟩ ⟨rfl, rfl, rfl, rfl, rfl, rfl, rfl, rfl, rfl, trivial⟩ ⟨Nat.zero_le _, hw3, Own.nil _ _ _, rfl⟩ ?_
    rintro ⟨k, d, l⟩ w4 ⟨hk, hw4, hd4, hl⟩
    simp only [] at hk hd4 hl
    change WC _ _ _ _ [(52, .int .i64 (k : Int)), (51, .int .i64 (YH fs : Int)), (10, d), (11, .int .i64 (l.length : Int)), (9, out), (7, .pointer (some ⟨w.heap.size, 0, none⟩)), (2, .bool true), (1, .int .i64 ver), (0, .slice fa fs.length fc)] _
    repeat first|(with_reducible first|apply Yk|apply Yd|apply Ym|apply Yj|apply Yh|apply Yi|apply Yn|apply Yl|apply Ye|apply Yg|apply Yr|apply Yc|apply Yf|apply Yb|apply Ya)|((with_reducible apply ws);exact rfl;exact rfl)|((with_reducible apply Yo);exact rfl;exact rfl;exact rfl)|((with_reducible apply Yq);exact rfl;exact rfl;exact rfl;exact rfl)|((with_reducible apply Yp);exact rfl;exact rfl;exact rfl)
    by_cases hkl : k < YH fs
    · refine Yz rfl (by simpa using hkl) ?_
      repeat first|(with_reducible first|apply Yk|apply Yd|apply Ym|apply Yj|apply Yh|apply Yi|apply Yn|apply Yl|apply Ye|apply Yg|apply Yr|apply Yc|apply Yf|apply Yb|apply Ya)|((with_reducible apply ws);exact rfl;exact rfl)|((with_reducible apply Yo);exact rfl;exact rfl;exact rfl)|((with_reducible apply Yq);exact rfl;exact rfl;exact rfl;exact rfl)|((with_reducible apply Yp);exact rfl;exact rfl;exact rfl)
      have hbl := below_le ver true fs t (m := k + 1) (n := YH fs) hkl
      rw [Yb8, Xp, List.length_append] at hbl
      refine XH (α := PtT) (fun s => [(57, .int .i64 (s.k : Int)), (56, .int .i64 (fs.length : Int)), (55, .slice fa fs.length fc), (14, .int .i64 (k : Int)), (52, .int .i64 (k : Int)), (51, .int .i64 (YH fs : Int)), (10, s.d), (11, .int .i64 (s.l.length : Int)), (9, out), (7, .pointer (some ⟨w.heap.size, 0, none⟩)), (2, .bool true), (1, .int .i64 ver), (0, .slice fa fs.length fc)])
        (fun s w' => s.k ≤ fs.length ∧ Below w2.heap.size w2 w' ∧ Own w' w2.heap.size 5 s.d (Yc0 s.l) ∧ s.l ++ wTs ver true (fs.drop s.k) s.k k t = below ver true fs t k ++ wTs ver true fs 0 k t) (fun s => fs.length - s.k) ⟨0, d, l⟩ ⟨rfl, rfl, rfl, rfl, rfl, rfl, rfl, rfl, rfl, rfl, rfl, rfl, rfl, trivial⟩ ⟨Nat.zero_le _, hw4, hd4, by rw [hl]; rfl⟩ ?_
      rintro ⟨i, d, l⟩ w5 ⟨hi, hw5, hd5, hl⟩
      simp only [] at hi hd5 hl
      change WC _ _ _ _ [(57, .int .i64 (i : Int)), (56, .int .i64 (fs.length : Int)), (55, .slice fa fs.length fc), (14, .int .i64 (k : Int)), (52, .int .i64 (k : Int)), (51, .int .i64 (YH fs : Int)), (10, d), (11, .int .i64 (l.length : Int)), (9, out), (7, .pointer (some ⟨w.heap.size, 0, none⟩)), (2, .bool true), (1, .int .i64 ver), (0, .slice fa fs.length fc)] _
      have hs25 := hw5.size
      have hw05 : Below w.heap.size w w5 := hw02.trans (hw5.mono (by omega))
      have hll := congrArg (fun x => (Yc0 x).length) hl
      simp only [Xp, List.length_append] at hll
      have hln := tagB_len l
      simp only [lim] at hlimA
      repeat first|(with_reducible first|apply Yk|apply Yd|apply Ym|apply Yj|apply Yh|apply Yi|apply Yn|apply Yl|apply Ye|apply Yg|apply Yr|apply Yc|apply Yf|apply Yb|apply Ya)|((with_reducible apply ws);exact rfl;exact rfl)|((with_reducible apply Yo);exact rfl;exact rfl;exact rfl)|((with_reducible apply Yq);exact rfl;exact rfl;exact rfl;exact rfl)|((with_reducible apply Yp);exact rfl;exact rfl;exact rfl)
      by_cases hlt : i < fs.length
      · refine Yz rfl (by simpa using hlt) ?_
        obtain ⟨b, off, c', cs, hv, _, hcs, hlen, hr⟩ := (hf.below (hw05.mono hB) (Nat.le_refl _)).get (sz := 8) (i := i) (by intro d hd; obtain ⟨x, _, rfl⟩ := List.mem_map.1 hd; exact UP x) (by simpa using hlt)
        simp only [Value.slice.injEq, List.length_map] at hv
        obtain ⟨rfl, _, rfl⟩ := hv
        simp only [List.getElem_map] at hr
        obtain ⟨hone, _⟩ := fld_one hr
        obtain ⟨sv, hce, _⟩ := VH hr
        subst hce
        have hdr := wTs_drop ver true fs k t hlt
        repeat first|(with_reducible first|apply Yk|apply Yd|apply Ym|apply Yj|apply Yh|apply Yi|apply Yn|apply Yl|apply Ye|apply Yg|apply Yr|apply Yc|apply Yf|apply Yb|apply Ya)|((with_reducible apply ws);exact rfl;exact rfl)|((with_reducible apply Yo);exact rfl;exact rfl;exact rfl)|((with_reducible apply Yq);exact rfl;exact rfl;exact rfl;exact rfl)|((with_reducible apply Yp);exact rfl;exact rfl;exact rfl)
        refine YD rfl rfl es_flds rfl hlt ?_
        refine XP (cs := [.int .i64 fs[i].kind, .int .i64 fs[i].fr, .int .i64 fs[i].upto, .int .i64 fs[i].nul, .int .i64 fs[i].tag, .int .i64 fs[i].df, .int .i64 fs[i].of, sv]) rfl ta_fld rfl (fun j v e => hcs.cell e) ?_
        refine Xu zv_fld rfl rfl (fun w6 hb6 hg6 hs6 => ?_)
        repeat first|(with_reducible first|apply Yk|apply Yd|apply Ym|apply Yj|apply Yh|apply Yi|apply Yn|apply Yl|apply Ye|apply Yg|apply Yr|apply Yc|apply Yf|apply Yb|apply Ya)|((with_reducible apply ws);exact rfl;exact rfl)|((with_reducible apply Yo);exact rfl;exact rfl;exact rfl)|((with_reducible apply Yq);exact rfl;exact rfl;exact rfl;exact rfl)|((with_reducible apply Yp);exact rfl;exact rfl;exact rfl)
        refine Xg (vs := [.int .i64 fs[i].kind, .int .i64 fs[i].fr, .int .i64 fs[i].upto, .int .i64 fs[i].nul, .int .i64 fs[i].tag, .int .i64 fs[i].df, .int .i64 fs[i].of, sv]) rfl rfl rfl tz_fld hone hb6 rfl (fun w7 hb7 hg7 hs7 => ?_)
        have hw57 : Below w5.heap.size w5 w7 := (Yx hg6 (Nat.le_refl _) (by simp)).trans (Yx hg7 (by omega) (by intro k hk; simp at hk; omega))
        have hw27 : Below w2.heap.size w2 w7 := hw5.trans (hw57.mono hs25)
        have hw07 : Below w.heap.size w w7 := hw02.trans (hw27.mono (by omega))
        have hd7 := hd5.below hw57
        have hs57 := hw57.size
        have hB7 : B ≤ w7.heap.size := by omega
        have htc : ∀ w', Below w7.heap.size w7 w' → Box w' w.heap.size [.int .i64 t.n, sv2, .bool t.nul, lv, uv] 28 := fun w' h => hb1.below (hw2.trans ((hw27.trans (h.mono (by omega))).mono (by omega))) (by omega)
        repeat first|(with_reducible first|apply Yk|apply Yd|apply Ym|apply Yj|apply Yh|apply Yi|apply Yn|apply Yl|apply Ye|apply Yg|apply Yr|apply Yc|apply Yf|apply Yb|apply Ya)|((with_reducible apply ws);exact rfl;exact rfl)|((with_reducible apply Yo);exact rfl;exact rfl;exact rfl)|((with_reducible apply Yq);exact rfl;exact rfl;exact rfl;exact rfl)|((with_reducible apply Yp);exact rfl;exact rfl;exact rfl)
        have hrw : ∀ w', Below w7.heap.size w7 w' → Rep (Lo B) w' (fldD fs[i]) [.int .i64 fs[i].kind, .int .i64 fs[i].fr, .int .i64 fs[i].upto, .int .i64 fs[i].nul, .int .i64 fs[i].tag, .int .i64 fs[i].df, .int .i64 fs[i].of, sv] := fun w' h => Rep.below hr ((hw57.trans (h.mono hs57)).mono (by omega)) (Nat.le_refl _)
        have htw : ∀ w', Below w7.heap.size w7 w' → Rep (Lo B) w' (treeD t) [.int .i64 t.n, sv2, .bool t.nul, lv, uv] := fun w' h => Rep.below ht ((hw07.trans (h.mono (by omega))).mono hB) (Nat.le_refl _)
        by_cases htk : fs[i].tag = (k : Int)
        · have e1 : (fs[i].tag == (k : Int)) = true := by simpa using htk
          refine Vb [(0, .pointer (some ⟨w5.heap.size, 0 + 4, none⟩)), (1, .int .i64 fs[i].tag), (2, .int .i64 (k : Int)), (3, .bool true), (4, .bool true), (5, .agg ([.int .i64 fs[i].kind, .int .i64 fs[i].fr, .int .i64 fs[i].upto, .int .i64 fs[i].nul, .int .i64 fs[i].tag, .int .i64 fs[i].df, .int .i64 fs[i].of, sv] : List Value).toArray), (6, .agg ([.int .i64 t.n, sv2, .bool t.nul, lv, uv] : List Value).toArray), (7, .int .i64 (i : Int))] [11, 10, 9, 8]
            (fun vals w' => Below w7.heap.size w7 w' ∧ match vals with
              | [] => True
              | [v] => ∃ xs' : List Value, v = .agg xs'.toArray ∧ Rep (Lo B) w' (treeD (att t i)) xs'
              | [v, _] => v = .bool (usual fs[i] (att t i))
              | v :: _ => v = .bool (!usual fs[i] (att t i)))
            mixed rfl rfl rfl rfl rfl (by show ([0,1,2,3,4,5,6,7] : List Nat).Nodup; decide) rfl rfl (by decide) rfl rfl rfl rfl ⟨(Below.refl _ w7).drew, trivial⟩ ?_ ⟨?_, ?_, ?_, ?_, trivial⟩ ?_
          · intro p hp vals w' hC a k
            simp only [List.mem_cons, List.not_mem_nil, or_false] at hp
            rcases hp with rfl | rfl | rfl | rfl | rfl | rfl | rfl | rfl
            · exact gv rfl rfl (YI k rfl fo_fld4)
            · exact gv rfl rfl (Xe k rfl to_int ((hb7.below hC.1 hb7.lt).cell0 (i := 4) rfl))
            · exact gv rfl rfl (YC k rfl)
            · refine gv rfl rfl ?_
              rw [← e1]
              exact rn_eql k rfl rfl
            · exact gv rfl rfl (YC k rfl)
            · exact Xb rfl rfl rfl k rfl rfl (XC k rfl ta_fld (hb7.below hC.1 hb7.lt))
            · exact Xb rfl rfl rfl k rfl rfl (XC k rfl ta_tree (htc _ hC.1))
            · exact Xb rfl rfl rfl k rfl rfl (YC k rfl)
          · rintro vals w' hvl ⟨hb', hC⟩ a k
            match vals, hvl with
            | [v10, v9, v8], _ =>
              simp only [] at hC
              subst hC
              exact ⟨_, rfl, does_pick k rfl rfl ⟨hb', rfl⟩⟩
          · rintro vals w' hvl ⟨hb', hC⟩ a k
            match vals, hvl with
            | [v9, v8], _ =>
              simp only [] at hC
              subst hC
              exact ⟨_, rfl, does_not k rfl ⟨hb', rfl⟩⟩
          · rintro vals w' hvl ⟨hb', hC⟩ a k
            match vals, hvl with
            | [v8], _ =>
              obtain ⟨xs', rfl, hxr⟩ := hC
              refine ⟨_, rfl, YQ k rfl (by kernel_rfl) ((hU fs[i] (List.getElem_mem hlt) (att t i) B w' _ _ (hok.at i) (by have := hb'.size; omega) (hrw _ hb') hxr).mono ?_)⟩
              rintro e w'' ⟨v, rfl, hb'', rfl⟩
              exact ⟨_, rfl, hb'.trans (hb''.mono hb'.size), rfl⟩
          · rintro vals w' hvl ⟨hb', hC⟩ a k
            match vals, hvl with
            | [], _ =>
              refine ⟨_, rfl, YQ k rfl (by kernel_rfl) ((fn_at t i B w' (by have := hb'.size; omega) _ (htw _ hb')).mono ?_)⟩
              rintro e w'' ⟨v, rfl, hb'', xs', rfl, hxr⟩
              exact ⟨_, rfl, hb'.trans (hb''.mono hb'.size), xs', rfl, hxr⟩
          · rintro vals w8 hvl ⟨hw78, hC⟩
            match vals, hvl with
            | [v11, v10, v9, v8], _ =>
              simp only [] at hC
              subst hC
              refine Yj ?_
              have hs78 := hw78.size
              have hd8 := hd7.below hw78
              have hw28 := hw27.trans (hw78.mono (by omega))
              cases hus : usual fs[i] (att t i)
              · refine Yz rfl rfl ?_
                rw [if_pos ⟨htk, hus⟩] at hdr
                rw [hdr] at hl hll
                simp only [Xp, Ye2, List.length_append] at hll
                have hwl := wTag_len k (Xk ver true fs[i] (att t i))
                refine Yk ?_
                refine Vb [(0, .agg ([.int .i64 fs[i].kind, .int .i64 fs[i].fr, .int .i64 fs[i].upto, .int .i64 fs[i].nul, .int .i64 fs[i].tag, .int .i64 fs[i].df, .int .i64 fs[i].of, sv] : List Value).toArray), (1, .int .i64 ver), (2, .bool true), (3, .agg ([.int .i64 t.n, sv2, .bool t.nul, lv, uv] : List Value).toArray), (4, .int .i64 (i : Int))] [7, 6, 5]
                  (fun vals w' => Below w8.heap.size w8 w' ∧ match vals with
                    | [] => True
                    | [v] => ∃ xs' : List Value, v = .agg xs'.toArray ∧ Rep (Lo B) w' (treeD (att t i)) xs'
                    | v :: _ => Own w' w8.heap.size 5 v (Xk ver true fs[i] (att t i)))
                  mixed rfl rfl rfl rfl rfl (by show ([0,1,2,3,4] : List Nat).Nodup; decide) rfl rfl (by decide) rfl rfl rfl rfl ⟨(Below.refl _ w8).drew, trivial⟩ ?_ ⟨?_, ?_, ?_, trivial⟩ ?_
                · intro p hp vals w' hC a k
                  have h7' := hw78.trans (hC.1.mono hs78)
                  simp only [List.mem_cons, List.not_mem_nil, or_false] at hp
                  rcases hp with rfl | rfl | rfl | rfl | rfl
                  · exact gv rfl rfl (XC k rfl ta_fld (hb7.below h7' hb7.lt))
                  · exact gv rfl rfl (YC k rfl)
                  · exact gv rfl rfl (YC k rfl)
                  · exact gv rfl rfl (XC k rfl ta_tree (htc _ h7'))
                  · exact gv rfl rfl (YC k rfl)
                · rintro vals w' hvl ⟨hb', hC⟩ a k
                  match vals, hvl with
                  | [v6, v5], _ => exact ⟨_, rfl, XK k rfl ⟨hb', hC⟩⟩
                · rintro vals w' hvl ⟨hb', hC⟩ a k
                  match vals, hvl with
                  | [v5], _ =>
                    obtain ⟨xs', rfl, hxr⟩ := hC
                    have h7' := hw78.trans (hb'.mono hs78)
                    refine ⟨_, rfl, YQ k rfl (by kernel_rfl) ((hF fs[i] (List.getElem_mem hlt) true ver (att t i) B w' _ _ (hok.at i) (by have := hb'.size; omega) (hrw _ h7') hxr (by simp only [lim]; omega)).mono ?_)⟩
                    rintro e w'' ⟨v, rfl, hb'', ho⟩
                    exact ⟨_, rfl, hb'.trans (hb''.mono hb'.size), ho.mono hb'.size⟩
                · rintro vals w' hvl ⟨hb', hC⟩ a k
                  match vals, hvl with
                  | [], _ =>
                    refine ⟨_, rfl, YQ k rfl (by kernel_rfl) ((fn_at t i B w' (by have := hb'.size; omega) _ (htw _ (hw78.trans (hb'.mono hs78)))).mono ?_)⟩
                    rintro e w'' ⟨v, rfl, hb'', xs', rfl, hxr⟩
                    exact ⟨_, rfl, hb'.trans (hb''.mono hb'.size), xs', rfl, hxr⟩
                rintro vals w9 hvl ⟨hw89, hC⟩
                match vals, hvl with
                | [v7, v6, v5], _ =>
                  refine Yj ?_
                  simp only [] at hC
                  have hs89 := hw89.size
                  have hd9 := hd8.below hw89
                  have hw29 := hw28.trans (hw89.mono (by omega))
                  have hap := apart_of hC.ge hd8.lt
                  obtain ⟨va, vc, rfl⟩ := hC.shape
                  repeat first|(with_reducible first|apply Yk|apply Yd|apply Ym|apply Yj|apply Yh|apply Yi|apply Yn|apply Yl|apply Ye|apply Yg|apply Yr|apply Yc|apply Yf|apply Yb|apply Ya)|((with_reducible apply ws);exact rfl;exact rfl)|((with_reducible apply Yo);exact rfl;exact rfl;exact rfl)|((with_reducible apply Yq);exact rfl;exact rfl;exact rfl;exact rfl)|((with_reducible apply Yp);exact rfl;exact rfl;exact rfl)
                  refine YB .u64 rfl ti_i64 ti_u64 rfl (r := (k : Int)) (by rw [IntKind.wrap_u64]; omega) ?_
                  refine Yu rfl (by kernel_rfl) rfl ((fn_uvarint k (by omega) w9).mono ?_)
                  rintro e w10 ⟨u1, rfl, hw10, hu1⟩
                  refine ⟨u1, rfl, ?_⟩
                  have hs10 := hw10.size
                  have hd10 := hd9.below hw10
                  have hv10 := Own.below hC hw10
                  refine YK tb_bytes tb_bytes rfl rfl rfl hu1.bytes hd10 (by omega) (by simp only [lim]; simp only [Jj, List.length_append] at hll; omega) (fun d1 w11 hd11 hg11 => ?_)
                  obtain ⟨hv11, hap11⟩ := hv10.apart hap hg11
                  have hs11 := hg11.grown.size
                  repeat first|(with_reducible first|apply Yk|apply Yd|apply Ym|apply Yj|apply Yh|apply Yi|apply Yn|apply Yl|apply Ye|apply Yg|apply Yr|apply Yc|apply Yf|apply Yb|apply Ya)|((with_reducible apply ws);exact rfl;exact rfl)|((with_reducible apply Yo);exact rfl;exact rfl;exact rfl)|((with_reducible apply Yq);exact rfl;exact rfl;exact rfl;exact rfl)|((with_reducible apply Yp);exact rfl;exact rfl;exact rfl)
                  refine YB .u64 rfl ti_i64 ti_u64 rfl (r := ((Xk ver true fs[i] (att t i)).length : Int)) (by rw [IntKind.wrap_u64]; simp only [Jj, List.length_append] at hll; omega) ?_
                  refine Yu rfl (by kernel_rfl) rfl ((fn_uvarint (Xk ver true fs[i] (att t i)).length (by simp only [Jj, List.length_append] at hll; omega) w11).mono ?_)
                  rintro e w12 ⟨u2, rfl, hw12, hu2⟩
                  refine ⟨u2, rfl, ?_⟩
                  have hs12' := hw12.size
                  have hd12 := hd11.below hw12
                  have hv12 := hv11.below hw12
                  refine YK tb_bytes tb_bytes rfl rfl rfl hu2.bytes hd12 (by omega) (by simp only [lim, List.length_append]; simp only [Jj, List.length_append] at hll; omega) (fun d2 w13 hd13 hg13 => ?_)
                  obtain ⟨hv13, hap13⟩ := hv12.apart hap11 hg13
                  have hs13 := hg13.grown.size
                  repeat first|(with_reducible first|apply Yk|apply Yd|apply Ym|apply Yj|apply Yh|apply Yi|apply Yn|apply Yl|apply Ye|apply Yg|apply Yr|apply Yc|apply Yf|apply Yb|apply Ya)|((with_reducible apply ws);exact rfl;exact rfl)|((with_reducible apply Yo);exact rfl;exact rfl;exact rfl)|((with_reducible apply Yq);exact rfl;exact rfl;exact rfl;exact rfl)|((with_reducible apply Yp);exact rfl;exact rfl;exact rfl)
                  refine YK tb_bytes tb_bytes rfl rfl rfl hv13.bytes hd13 (by omega) (by simp only [lim, List.length_append]; simp only [Jj, List.length_append] at hll; omega) (fun d3 w14 hd14 hg14 => ?_)
                  have hw2e : Below w2.heap.size w2 w14 :=
                    (((((hw29.trans (hw10.mono (by omega))).trans (hg11.below (by omega) hd10.ge)).trans (hw12.mono (by omega))).trans (hg13.below (by omega) hd12.ge)).trans (hg14.below (by omega) hd13.ge))
                  repeat first|(with_reducible first|apply Yk|apply Yd|apply Ym|apply Yj|apply Yh|apply Yi|apply Yn|apply Yl|apply Ye|apply Yg|apply Yr|apply Yc|apply Yf|apply Yb|apply Ya)|((with_reducible apply ws);exact rfl;exact rfl)|((with_reducible apply Yo);exact rfl;exact rfl;exact rfl)|((with_reducible apply Yq);exact rfl;exact rfl;exact rfl;exact rfl)|((with_reducible apply Yp);exact rfl;exact rfl;exact rfl)
                  refine Xm rfl rfl rfl (r := ((l ++ [(k, Xk ver true fs[i] (att t i))]).length : Int)) (by rw [IntKind.wrap_i64]; simp only [List.length_append, List.length_cons, List.length_nil]; omega) ?_
                  repeat first|(with_reducible first|apply Yk|apply Yd|apply Ym|apply Yj|apply Yh|apply Yi|apply Yn|apply Yl|apply Ye|apply Yg|apply Yr|apply Yc|apply Yf|apply Yb|apply Ya)|((with_reducible apply ws);exact rfl;exact rfl)|((with_reducible apply Yo);exact rfl;exact rfl;exact rfl)|((with_reducible apply Yq);exact rfl;exact rfl;exact rfl;exact rfl)|((with_reducible apply Yp);exact rfl;exact rfl;exact rfl)
                  refine Xm rfl rfl rfl (r := ((i + 1 : Nat) : Int)) (by rw [IntKind.wrap_i64]; omega) ?_
                  repeat first|(with_reducible first|apply Yk|apply Yd|apply Ym|apply Yj|apply Yh|apply Yi|apply Yn|apply Yl|apply Ye|apply Yg|apply Yr|apply Yc|apply Yf|apply Yb|apply Ya)|((with_reducible apply ws);exact rfl;exact rfl)|((with_reducible apply Yo);exact rfl;exact rfl;exact rfl)|((with_reducible apply Yq);exact rfl;exact rfl;exact rfl;exact rfl)|((with_reducible apply Yp);exact rfl;exact rfl;exact rfl)
                  refine YU ⟨i + 1, d3, l ++ [(k, Xk ver true fs[i] (att t i))]⟩ ⟨rfl, rfl, rfl, rfl, rfl, rfl, rfl, rfl, rfl, rfl, rfl, rfl, rfl, trivial⟩ ⟨by simp only []; omega, hw2e, ?_, ?_⟩ (by simp only []; omega)
                  · simp only [Xp, Ye2, Jj]
                    simpa only [List.append_assoc] using hd14
                  · simp only []
                    rw [List.append_assoc]; exact hl
              · refine YE rfl rfl ?_
                rw [if_neg (by rw [hus]; simp)] at hdr
                rw [hdr] at hl
                repeat first|(with_reducible first|apply Yk|apply Yd|apply Ym|apply Yj|apply Yh|apply Yi|apply Yn|apply Yl|apply Ye|apply Yg|apply Yr|apply Yc|apply Yf|apply Yb|apply Ya)|((with_reducible apply ws);exact rfl;exact rfl)|((with_reducible apply Yo);exact rfl;exact rfl;exact rfl)|((with_reducible apply Yq);exact rfl;exact rfl;exact rfl;exact rfl)|((with_reducible apply Yp);exact rfl;exact rfl;exact rfl)
                refine Xm rfl rfl rfl (r := ((i + 1 : Nat) : Int)) (by rw [IntKind.wrap_i64]; omega) ?_
                repeat first|(with_reducible first|apply Yk|apply Yd|apply Ym|apply Yj|apply Yh|apply Yi|apply Yn|apply Yl|apply Ye|apply Yg|apply Yr|apply Yc|apply Yf|apply Yb|apply Ya)|((with_reducible apply ws);exact rfl;exact rfl)|((with_reducible apply Yo);exact rfl;exact rfl;exact rfl)|((with_reducible apply Yq);exact rfl;exact rfl;exact rfl;exact rfl)|((with_reducible apply Yp);exact rfl;exact rfl;exact rfl)
                exact YU ⟨i + 1, d, l⟩ ⟨rfl, rfl, rfl, rfl, rfl, rfl, rfl, rfl, rfl, rfl, rfl, rfl, rfl, trivial⟩ ⟨by simp only []; omega, hw28, hd8, hl⟩ (by simp only []; omega)
        · have e1 : (fs[i].tag == (k : Int)) = false := by simpa using htk
          refine Vb [(0, .pointer (some ⟨w5.heap.size, 0 + 4, none⟩)), (1, .int .i64 fs[i].tag), (2, .int .i64 (k : Int)), (3, .bool false), (4, .bool false), (5, undef), (6, undef), (7, undef), (8, undef), (9, undef), (10, undef), (11, .bool false)] []
            (fun vals w' => w' = w7.drew)
            mixed rfl rfl rfl rfl rfl (by show ([0,1,2,3,4,5,6,7,8,9,10,11] : List Nat).Nodup; decide) rfl rfl (by decide) rfl rfl rfl rfl rfl ?_ trivial ?_
          · intro p hp vals w' hC a k
            subst hC
            simp only [List.mem_cons, List.not_mem_nil, or_false] at hp
            rcases hp with rfl | rfl | rfl | rfl | rfl | rfl | rfl | rfl | rfl | rfl | rfl | rfl
            · exact gv rfl rfl (YI k rfl fo_fld4)
            · exact gv rfl rfl (Xe k rfl to_int (hb7.cell0 (i := 4) rfl))
            · exact gv rfl rfl (YC k rfl)
            · refine gv rfl rfl ?_
              rw [← e1]
              exact rn_eql k rfl rfl
            · exact gv rfl rfl (YC k rfl)
            iterate 6 (exact gv_no rfl rfl rfl k rfl rfl)
            · exact gv rfl rfl (UB k rfl rfl)
          · rintro vals w8 hvl rfl
            refine Yj ?_
            refine YE rfl rfl ?_
            rw [if_neg (fun h => htk h.1)] at hdr
            rw [hdr] at hl
            repeat first|(with_reducible first|apply Yk|apply Yd|apply Ym|apply Yj|apply Yh|apply Yi|apply Yn|apply Yl|apply Ye|apply Yg|apply Yr|apply Yc|apply Yf|apply Yb|apply Ya)|((with_reducible apply ws);exact rfl;exact rfl)|((with_reducible apply Yo);exact rfl;exact rfl;exact rfl)|((with_reducible apply Yq);exact rfl;exact rfl;exact rfl;exact rfl)|((with_reducible apply Yp);exact rfl;exact rfl;exact rfl)
            refine Xm rfl rfl rfl (r := ((i + 1 : Nat) : Int)) (by rw [IntKind.wrap_i64]; omega) ?_
            repeat first|(with_reducible first|apply Yk|apply Yd|apply Ym|apply Yj|apply Yh|apply Yi|apply Yn|apply Yl|apply Ye|apply Yg|apply Yr|apply Yc|apply Yf|apply Yb|apply Ya)|((with_reducible apply ws);exact rfl;exact rfl)|((with_reducible apply Yo);exact rfl;exact rfl;exact rfl)|((with_reducible apply Yq);exact rfl;exact rfl;exact rfl;exact rfl)|((with_reducible apply Yp);exact rfl;exact rfl;exact rfl)
            exact YU ⟨i + 1, d, l⟩ ⟨rfl, rfl, rfl, rfl, rfl, rfl, rfl, rfl, rfl, rfl, rfl, rfl, rfl, trivial⟩ ⟨by simp only []; omega, hw27.drew, hd7, hl⟩ (by simp only []; omega)
      · refine YE rfl (by simpa using hlt) ?_
        repeat first|(with_reducible first|apply Yk|apply Yd|apply Ym|apply Yj|apply Yh|apply Yi|apply Yn|apply Yl|apply Ye|apply Yg|apply Yr|apply Yc|apply Yf|apply Yb|apply Ya)|((with_reducible apply ws);exact rfl;exact rfl)|((with_reducible apply Yo);exact rfl;exact rfl;exact rfl)|((with_reducible apply Yq);exact rfl;exact rfl;exact rfl;exact rfl)|((with_reducible apply Yp);exact rfl;exact rfl;exact rfl)
        refine Xm rfl rfl rfl (r := ((k + 1 : Nat) : Int)) (by rw [IntKind.wrap_i64]; omega) ?_
        repeat first|(with_reducible first|apply Yk|apply Yd|apply Ym|apply Yj|apply Yh|apply Yi|apply Yn|apply Yl|apply Ye|apply Yg|apply Yr|apply Yc|apply Yf|apply Yb|apply Ya)|((with_reducible apply ws);exact rfl;exact rfl)|((with_reducible apply Yo);exact rfl;exact rfl;exact rfl)|((with_reducible apply Yq);exact rfl;exact rfl;exact rfl;exact rfl)|((with_reducible apply Yp);exact rfl;exact rfl;exact rfl)
        refine YU ⟨k + 1, d, l⟩ ⟨rfl, rfl, rfl, rfl, rfl, rfl, rfl, rfl, rfl, trivial⟩ ⟨by simp only []; omega, hw5, hd5, ?_⟩ (by simp only []; omega)
        simp only []
        rw [Yb8, ← hl, List.drop_of_length_le (by omega)]
        simp [wTs]
    · refine YE rfl (by simpa using hkl) ?_
      repeat first|(with_reducible first|apply Yk|apply Yd|apply Ym|apply Yj|apply Yh|apply Yi|apply Yn|apply Yl|apply Ye|apply Yg|apply Yr|apply Yc|apply Yf|apply Yb|apply Ya)|((with_reducible apply ws);exact rfl;exact rfl)|((with_reducible apply Yo);exact rfl;exact rfl;exact rfl)|((with_reducible apply Yq);exact rfl;exact rfl;exact rfl;exact rfl)|((with_reducible apply Yp);exact rfl;exact rfl;exact rfl)
      have hke : k = YH fs := by omega
      subst hke
      exact Ul ⟨0, d, l⟩ ⟨rfl, rfl, rfl, rfl, rfl, rfl, rfl, trivial⟩ ⟨hw4, hd4, hl⟩
  rintro ⟨_, d, l⟩ w3 ⟨hw3, hd3, hl⟩
  simp only [] at hd3 hl
  have hs23 := hw3.size
  have hw03 : Below w.heap.size w w3 := hw02.trans (hw3.mono (by omega))
  have hbx3 : Box w3 w.heap.size [.int .i64 t.n, sv2, .bool t.nul, lv, uv] 28 := hb1.below (hw2.trans (hw3.mono (by omega))) (by omega)
  have hll := tagB_len (below ver true fs t (YH fs) ++ Xs fs t.u)
  rw [Xp, List.length_append, List.length_append] at hll
  refine Yf4 (α := PtT) (fun s => [(10, s.d), (11, .int .i64 ((XR ver true fs t).length : Int)), (9, out)])
    (fun s w' => Below w2.heap.size w2 w' ∧ Own w' w2.heap.size 5 s.d (Yc0 (XR ver true fs t))) ?_ ?_
  · repeat first|(with_reducible first|apply Yk|apply Yd|apply Ym|apply Yj|apply Yh|apply Yi|apply Yn|apply Yl|apply Ye|apply Yg|apply Yr|apply Yc|apply Yf|apply Yb|apply Ya)|((with_reducible apply ws);exact rfl;exact rfl)|((with_reducible apply Yo);exact rfl;exact rfl;exact rfl)|((with_reducible apply Yq);exact rfl;exact rfl;exact rfl;exact rfl)|((with_reducible apply Yp);exact rfl;exact rfl;exact rfl)
    refine Yv rfl to_tags rfl hbx3 rfl ?_
    refine Yu rfl (by kernel_rfl) rfl ((Yi0 _ _ fs t.u B w3 (by omega) (hf.below (hw03.mono hB) (Nat.le_refl _)) (hu.below (hw03.mono hB) (Nat.le_refl _)) (Yb7.tag hfs) (by omega)).mono ?_)
    rintro e w4 ⟨v, rfl, hw4, qs, hrow, hsay, hat⟩
    refine ⟨_, rfl, ?_⟩
    have hs34 := hw4.size
    have hd4 := hd3.below hw4
    have hqn : qs.length ≤ 32767 := by have := unknown_len fs t.u; rw [← hsay] at this; simpa using this
    have hoth : Xs fs t.u = qs.map fun q => (q.1.1, whole q.1.2) := by simp only [Xs, ← hsay, List.map_map]; rfl
    have hkeys : ∀ q ∈ qs, q.1.1 < 4294967296 := by
      intro q hq
      have : q.1 ∈ YZ fs t.u := by rw [← hsay]; exact List.mem_map_of_mem hq
      exact hok.u _ (unknown_mem fs t.u _ this)
    obtain ⟨va, vc, rfl⟩ := Row.shape hrow
    have hvb := fun g hg => World.ownsRow.lt hrow g hg
    repeat first|(with_reducible first|apply Yk|apply Yd|apply Ym|apply Yj|apply Yh|apply Yi|apply Yn|apply Yl|apply Ye|apply Yg|apply Yr|apply Yc|apply Yf|apply Yb|apply Ya)|((with_reducible apply ws);exact rfl;exact rfl)|((with_reducible apply Yo);exact rfl;exact rfl;exact rfl)|((with_reducible apply Yq);exact rfl;exact rfl;exact rfl;exact rfl)|((with_reducible apply Yp);exact rfl;exact rfl;exact rfl)
    refine XH (α := PtT) (fun s => [(102, .int .i64 (s.k : Int)), (101, .int .i64 (qs.length : Int)), (100, .slice va qs.length vc), (10, s.d), (11, .int .i64 (s.l.length : Int)), (9, out), (7, .pointer (some ⟨w.heap.size, 0, none⟩))])
      (fun s w' => s.k ≤ qs.length ∧ Below w2.heap.size w2 w' ∧ w4.heap.size ≤ w'.heap.size ∧ Own w' w2.heap.size 5 s.d (Yc0 s.l) ∧ s.l = below ver true fs t (YH fs) ++ (qs.take s.k).map (fun q => (q.1.1, whole q.1.2)) ∧ w'.ownsRow w3.heap.size 61 2 (.slice va qs.length vc) qs.length (XI qs) ∧ (∀ g, s.d.ownBlock = some g → g < w3.heap.size ∨ w4.heap.size ≤ g)) (fun s => qs.length - s.k) ⟨0, d, l⟩ ⟨rfl, rfl, rfl, rfl, rfl, rfl, rfl, trivial⟩ ⟨Nat.zero_le _, hw3.trans (hw4.mono hs23), Nat.le_refl _, hd4, by rw [hl]; simp, hrow, fun g hg => .inl (hd3.lt g hg)⟩ ?_
    rintro ⟨i, d, l⟩ w5 ⟨hi, hw5, hs45, hd5, hl, hrow5, hdb⟩
    simp only [] at hi hd5 hl hdb
    change WC _ _ _ _ [(102, .int .i64 (i : Int)), (101, .int .i64 (qs.length : Int)), (100, .slice va qs.length vc), (10, d), (11, .int .i64 (l.length : Int)), (9, out), (7, .pointer (some ⟨w.heap.size, 0, none⟩))] _
    have hs25 := hw5.size
    have hll5 : (Yc0 (below ver true fs t (YH fs))).length + (Yc0 (Xs fs t.u)).length ≤ 140737488355328 := by simp only [lim] at hlimA; omega
    repeat first|(with_reducible first|apply Yk|apply Yd|apply Ym|apply Yj|apply Yh|apply Yi|apply Yn|apply Yl|apply Ye|apply Yg|apply Yr|apply Yc|apply Yf|apply Yb|apply Ya)|((with_reducible apply ws);exact rfl;exact rfl)|((with_reducible apply Yo);exact rfl;exact rfl;exact rfl)|((with_reducible apply Yq);exact rfl;exact rfl;exact rfl;exact rfl)|((with_reducible apply Yp);exact rfl;exact rfl;exact rfl)
    by_cases hlt : i < qs.length
    · refine Yz rfl (by simpa using hlt) ?_
      obtain ⟨g, cap, hde, hg1, hg2', hca⟩ := Row.cells hrow5 (by omega)
      simp only [Value.slice.injEq, true_and] at hde
      obtain ⟨rfl, rfl⟩ := hde
      have hcj := JP hca hlt
      have hsq := hat qs[i] (List.getElem_mem hlt)
      have hone : (([.int .u32 (qs[i].1.1 : Nat), qs[i].2] : List Value).all fun v => v.oneCell') = true := by
        obtain ⟨a3, c3, h3, _⟩ := hsq.shape
        rw [h3]; rfl
      -- how long the tags are so far
      have hle : (Yc0 l).length + (Jj qs[i].1.1 (whole qs[i].1.2)).length ≤ 140737488355328 := by
        have h1 : (Yc0 (Xs fs t.u)).length ≥ (Yc0 ((qs.take (i + 1)).map fun q => (q.1.1, whole q.1.2))).length := by
          rw [hoth]
          have : qs.map (fun q => (q.1.1, whole q.1.2)) = (qs.take (i + 1)).map (fun q => (q.1.1, whole q.1.2)) ++ (qs.drop (i + 1)).map (fun q => (q.1.1, whole q.1.2)) := by rw [← List.map_append, List.take_append_drop]
          rw [this, Xp, List.length_append]; omega
        rw [List.take_succ_eq_append_getElem hlt, List.map_append, Xp, List.length_append] at h1
        simp only [List.map_cons, List.map_nil, Ye2] at h1
        rw [hl, Xp, List.length_append]
        omega
      have hln := tagB_len l
      repeat first|(with_reducible first|apply Yk|apply Yd|apply Ym|apply Yj|apply Yh|apply Yi|apply Yn|apply Yl|apply Ye|apply Yg|apply Yr|apply Yc|apply Yf|apply Yb|apply Ya)|((with_reducible apply ws);exact rfl;exact rfl)|((with_reducible apply Yo);exact rfl;exact rfl;exact rfl)|((with_reducible apply Yq);exact rfl;exact rfl;exact rfl;exact rfl)|((with_reducible apply Yp);exact rfl;exact rfl;exact rfl)
      refine YD rfl rfl es_tags rfl hlt ?_
      refine XP (cs := [.int .u32 (qs[i].1.1 : Nat), qs[i].2]) rfl ta_tag rfl (fun j v e => hcj.cell e) ?_
      refine Xu zv_tag rfl rfl (fun w6 hb6 hg6 hs6 => ?_)
      refine Xg (vs := [.int .u32 (qs[i].1.1 : Nat), qs[i].2]) rfl rfl rfl tz_tag hone hb6 rfl (fun w7 hb7 hg7 hs7 => ?_)
      have hw57 : Below w5.heap.size w5 w7 := (Yx hg6 (Nat.le_refl _) (by simp)).trans (Yx hg7 (by omega) (by intro k hk; simp at hk; omega))
      have hw27 : Below w2.heap.size w2 w7 := hw5.trans (hw57.mono hs25)
      have hd7 := hd5.below hw57
      have hs57 := hw57.size
      have hrow7 := Row.kept hrow5 (Jb hw57) (fun g _ => by simp)
      have hsq7 : Sq B w7 qs[i].2 (qs[i].1.2.map byteD) := hsq.below ((Below.between hw3 hw27 (by omega)).mono (by omega)) (Nat.le_refl _)
      repeat first|(with_reducible first|apply Yk|apply Yd|apply Ym|apply Yj|apply Yh|apply Yi|apply Yn|apply Yl|apply Ye|apply Yg|apply Yr|apply Yc|apply Yf|apply Yb|apply Ya)|((with_reducible apply ws);exact rfl;exact rfl)|((with_reducible apply Yo);exact rfl;exact rfl;exact rfl)|((with_reducible apply Yq);exact rfl;exact rfl;exact rfl;exact rfl)|((with_reducible apply Yp);exact rfl;exact rfl;exact rfl)
      refine Yv rfl to_bytes rfl hb7 rfl ?_
      refine Yu rfl (by kernel_rfl) rfl ((fn_whole _ _ _ _ hsq7).mono ?_)
      rintro e w8 ⟨vb, rfl, _, rfl, hsb⟩
      refine ⟨vb, rfl, ?_⟩
      rw [Yi4] at hsb
      have hby := hsb
      obtain ⟨ba, bc, rfl, _⟩ := hsb.shape
      rw [List.length_map] at *
      repeat first|(with_reducible first|apply Yk|apply Yd|apply Ym|apply Yj|apply Yh|apply Yi|apply Yn|apply Yl|apply Ye|apply Yg|apply Yr|apply Yc|apply Yf|apply Yb|apply Ya)|((with_reducible apply ws);exact rfl;exact rfl)|((with_reducible apply Yo);exact rfl;exact rfl;exact rfl)|((with_reducible apply Yq);exact rfl;exact rfl;exact rfl;exact rfl)|((with_reducible apply Yp);exact rfl;exact rfl;exact rfl)
      refine Yv rfl to_u32 rfl hb7 rfl ?_
      have hk32 := hkeys qs[i] (List.getElem_mem hlt)
      refine YB .u64 rfl ti_u32 ti_u64 rfl (r := (qs[i].1.1 : Int)) (by rw [IntKind.wrap_u64]; omega) ?_
      refine Yu rfl (by kernel_rfl) rfl ((fn_uvarint qs[i].1.1 (by omega) w8).mono ?_)
      rintro e w9 ⟨u1, rfl, hw9, hu1⟩
      refine ⟨u1, rfl, ?_⟩
      have hs89 := hw9.size
      have hd9 := hd7.below hw9
      have hrow9 := Row.kept hrow7 (Jb hw9) (fun g _ => by simp)
      have hBw : ∀ w', Below w2.heap.size w8 w' → Sq B w' (.slice ba (whole qs[i].1.2).length bc) ((whole qs[i].1.2).map byteD) := fun w' h => hby.below (h.mono (by omega)) (Nat.le_refl _)
      have hwl : (whole qs[i].1.2).length ≤ 32767 := by simp [whole, XQ]; omega
      simp only [Jj, List.length_append] at hle
      refine YK tb_bytes tb_bytes rfl rfl rfl hu1.bytes hd9 (by omega) (by simp only [lim]; omega) (fun d1 w10 hd10 hg10 => ?_)
      have hs10 := hg10.grown.size
      have hb89 : Below w2.heap.size w8 w9 := hw9.mono (by omega)
      have hb810 := hb89.trans (hg10.below (by omega) hd9.ge)
      have hrow10 := Row.kept hrow9 hg10.grown (fun g hg e => by have h1 := hvb g hg; have h2 := hdb g e; omega)
      have hdb10 : ∀ g, d1.ownBlock = some g → g < w3.heap.size ∨ w4.heap.size ≤ g := by
        intro g hg
        rcases hg10.fresh with h | h
        · exact hdb g (by rw [← h]; exact hg)
        · have := h g hg; right; omega
      repeat first|(with_reducible first|apply Yk|apply Yd|apply Ym|apply Yj|apply Yh|apply Yi|apply Yn|apply Yl|apply Ye|apply Yg|apply Yr|apply Yc|apply Yf|apply Yb|apply Ya)|((with_reducible apply ws);exact rfl;exact rfl)|((with_reducible apply Yo);exact rfl;exact rfl;exact rfl)|((with_reducible apply Yq);exact rfl;exact rfl;exact rfl;exact rfl)|((with_reducible apply Yp);exact rfl;exact rfl;exact rfl)
      refine YB .u64 rfl ti_i64 ti_u64 rfl (r := ((whole qs[i].1.2).length : Int)) (by rw [IntKind.wrap_u64]; omega) ?_
      refine Yu rfl (by kernel_rfl) rfl ((fn_uvarint (whole qs[i].1.2).length (by omega) w10).mono ?_)
      rintro e w11 ⟨u2, rfl, hw11, hu2⟩
      refine ⟨u2, rfl, ?_⟩
      have hs11 := hw11.size
      have hd11 := hd10.below hw11
      have hrow11 := Row.kept hrow10 (Jb hw11) (fun g _ => by simp)
      have hb811 := hb810.trans (hw11.mono (by omega))
      refine YK tb_bytes tb_bytes rfl rfl rfl hu2.bytes hd11 (by omega) (by simp only [lim, List.length_append]; omega) (fun d2 w12 hd12 hg12 => ?_)
      have hs12' := hg12.grown.size
      have hb812 := hb811.trans (hg12.below (by omega) hd11.ge)
      have hrow12 := Row.kept hrow11 hg12.grown (fun g hg e => by have h1 := hvb g hg; have h2 := hdb10 g e; omega)
      have hdb12 : ∀ g, d2.ownBlock = some g → g < w3.heap.size ∨ w4.heap.size ≤ g := by
        intro g hg
        rcases hg12.fresh with h | h
        · exact hdb10 g (by rw [← h]; exact hg)
        · have := h g hg; right; omega
      repeat first|(with_reducible first|apply Yk|apply Yd|apply Ym|apply Yj|apply Yh|apply Yi|apply Yn|apply Yl|apply Ye|apply Yg|apply Yr|apply Yc|apply Yf|apply Yb|apply Ya)|((with_reducible apply ws);exact rfl;exact rfl)|((with_reducible apply Yo);exact rfl;exact rfl;exact rfl)|((with_reducible apply Yq);exact rfl;exact rfl;exact rfl;exact rfl)|((with_reducible apply Yp);exact rfl;exact rfl;exact rfl)
      refine YK tb_bytes tb_bytes rfl rfl rfl (hBw _ hb812).bytes hd12 (by omega) (by simp only [lim, List.length_append]; omega) (fun d3 w13 hd13 hg13 => ?_)
      have hs13 := hg13.grown.size
      have hb813 := hb812.trans (hg13.below (by omega) hd12.ge)
      have hrow13 := Row.kept hrow12 hg13.grown (fun g hg e => by have h1 := hvb g hg; have h2 := hdb12 g e; omega)
      have hdb13 : ∀ g, d3.ownBlock = some g → g < w3.heap.size ∨ w4.heap.size ≤ g := by
        intro g hg
        rcases hg13.fresh with h | h
        · exact hdb12 g (by rw [← h]; exact hg)
        · have := h g hg; right; omega
      repeat first|(with_reducible first|apply Yk|apply Yd|apply Ym|apply Yj|apply Yh|apply Yi|apply Yn|apply Yl|apply Ye|apply Yg|apply Yr|apply Yc|apply Yf|apply Yb|apply Ya)|((with_reducible apply ws);exact rfl;exact rfl)|((with_reducible apply Yo);exact rfl;exact rfl;exact rfl)|((with_reducible apply Yq);exact rfl;exact rfl;exact rfl;exact rfl)|((with_reducible apply Yp);exact rfl;exact rfl;exact rfl)
      refine Xm rfl rfl rfl (r := ((l ++ [(qs[i].1.1, whole qs[i].1.2)]).length : Int)) (by rw [IntKind.wrap_i64]; simp only [List.length_append, List.length_cons, List.length_nil]; omega) ?_
      repeat first|(with_reducible first|apply Yk|apply Yd|apply Ym|apply Yj|apply Yh|apply Yi|apply Yn|apply Yl|apply Ye|apply Yg|apply Yr|apply Yc|apply Yf|apply Yb|apply Ya)|((with_reducible apply ws);exact rfl;exact rfl)|((with_reducible apply Yo);exact rfl;exact rfl;exact rfl)|((with_reducible apply Yq);exact rfl;exact rfl;exact rfl;exact rfl)|((with_reducible apply Yp);exact rfl;exact rfl;exact rfl)
      refine Xm rfl rfl rfl (r := ((i + 1 : Nat) : Int)) (by rw [IntKind.wrap_i64]; omega) ?_
      repeat first|(with_reducible first|apply Yk|apply Yd|apply Ym|apply Yj|apply Yh|apply Yi|apply Yn|apply Yl|apply Ye|apply Yg|apply Yr|apply Yc|apply Yf|apply Yb|apply Ya)|((with_reducible apply ws);exact rfl;exact rfl)|((with_reducible apply Yo);exact rfl;exact rfl;exact rfl)|((with_reducible apply Yq);exact rfl;exact rfl;exact rfl;exact rfl)|((with_reducible apply Yp);exact rfl;exact rfl;exact rfl)
      refine YU ⟨i + 1, d3, l ++ [(qs[i].1.1, whole qs[i].1.2)]⟩ ⟨rfl, rfl, rfl, rfl, rfl, rfl, rfl, trivial⟩ ⟨by simp only []; omega, hw27.trans hb813, by omega, ?_, ?_, hrow13, hdb13⟩ (by simp only []; omega)
      · simp only [Xp, Ye2, Jj]
        simpa only [List.append_assoc] using hd13
      · simp only []
        rw [hl, List.take_succ_eq_append_getElem hlt, List.map_append, List.append_assoc]; rfl
    · refine YE rfl (by simpa using hlt) ?_
      repeat first|(with_reducible first|apply Yk|apply Yd|apply Ym|apply Yj|apply Yh|apply Yi|apply Yn|apply Yl|apply Ye|apply Yg|apply Yr|apply Yc|apply Yf|apply Yb|apply Ya)|((with_reducible apply ws);exact rfl;exact rfl)|((with_reducible apply Yo);exact rfl;exact rfl;exact rfl)|((with_reducible apply Yq);exact rfl;exact rfl;exact rfl;exact rfl)|((with_reducible apply Yp);exact rfl;exact rfl;exact rfl)
      have hla : l = XR ver true fs t := by
        rw [hl, List.take_of_length_le (by omega), US, hoth]
      subst hla
      exact Ul ⟨0, d, []⟩ ⟨rfl, rfl, rfl, trivial⟩ ⟨hw5, hd5⟩
  rintro ⟨_, d, _⟩ w4 ⟨hw4, hd4⟩
  simp only [] at hd4
  have hs24 := hw4.size
  have ho4 := ho2.below hw4
  have hal : (XR ver true fs t).length = (below ver true fs t (YH fs)).length + (Xs fs t.u).length := by rw [US, List.length_append]
  have htl : (Yc0 (XR ver true fs t)).length = (Yc0 (below ver true fs t (YH fs))).length + (Yc0 (Xs fs t.u)).length := by rw [US, Xp, List.length_append]
  rw [← hal] at hlimA
  have hap := apart_of hd4.ge ho2.lt
  repeat first|(with_reducible first|apply Yk|apply Yd|apply Ym|apply Yj|apply Yh|apply Yi|apply Yn|apply Yl|apply Ye|apply Yg|apply Yr|apply Yc|apply Yf|apply Yb|apply Ya)|((with_reducible apply ws);exact rfl;exact rfl)|((with_reducible apply Yo);exact rfl;exact rfl;exact rfl)|((with_reducible apply Yq);exact rfl;exact rfl;exact rfl;exact rfl)|((with_reducible apply Yp);exact rfl;exact rfl;exact rfl)
  refine YB .u64 rfl ti_i64 ti_u64 rfl (r := ((XR ver true fs t).length : Int)) (by rw [IntKind.wrap_u64]; simp only [lim] at hlimA; omega) ?_
  refine Yu rfl (by kernel_rfl) rfl ((fn_uvarint (XR ver true fs t).length (by simp only [lim] at hlimA; omega) w4).mono ?_)
  rintro e w5 ⟨u1, rfl, hw5, hu1⟩
  refine ⟨u1, rfl, ?_⟩
  have hs5 := hw5.size
  have hd5 := hd4.below hw5
  have ho5 := ho4.below hw5
  refine YK tb_bytes tb_bytes rfl rfl rfl hu1.bytes ho5 (by omega) (by omega) (fun o1 w6 ho6 hg6 => ?_)
  obtain ⟨hd6, hap6⟩ := hd5.apart hap hg6
  have hs6 := hg6.grown.size
  obtain ⟨da, dc, rfl⟩ := hd6.shape
  repeat first|(with_reducible first|apply Yk|apply Yd|apply Ym|apply Yj|apply Yh|apply Yi|apply Yn|apply Yl|apply Ye|apply Yg|apply Yr|apply Yc|apply Yf|apply Yb|apply Ya)|((with_reducible apply ws);exact rfl;exact rfl)|((with_reducible apply Yo);exact rfl;exact rfl;exact rfl)|((with_reducible apply Yq);exact rfl;exact rfl;exact rfl;exact rfl)|((with_reducible apply Yp);exact rfl;exact rfl;exact rfl)
  refine YK tb_bytes tb_bytes rfl rfl rfl hd6.bytes ho6 (by omega) (by rw [List.length_append]; omega) (fun o2 w7 ho7 hg7 => ?_)
  have hs7 := hg7.grown.size
  repeat first|(with_reducible first|apply Yk|apply Yd|apply Ym|apply Yj|apply Yh|apply Yi|apply Yn|apply Yl|apply Ye|apply Yg|apply Yr|apply Yc|apply Yf|apply Yb|apply Ya)|((with_reducible apply ws);exact rfl;exact rfl)|((with_reducible apply Yo);exact rfl;exact rfl;exact rfl)|((with_reducible apply Yq);exact rfl;exact rfl;exact rfl;exact rfl)|((with_reducible apply Yp);exact rfl;exact rfl;exact rfl)
  refine Yt rfl rfl ⟨_, rfl, ((((hw02.trans (hw4.mono (by omega))).trans (hw5.mono (by omega))).trans (hg6.below (by omega) (fun g hg => by have := ho5.ge g hg; omega))).trans (hg7.below (by omega) (fun g hg => by have := ho6.ge g hg; omega))), ?_⟩
  rw [Ya3, ← List.append_assoc]
  exact ho7.mono (by omega)
end
mutual
theorem field_ok : ∀ f : Fld, f.okb = true → FieldOK f ∧ Yh8 f
  | .mk kind fr upto nul tag df of sub, h => by
    have hs : Yb7 sub = true := Yb7.sub h
    have ih := fields_ok sub (by simp only [Yb7, Bool.and_eq_true] at hs; exact hs.1)
    have hp := part_of sub hs (fun f hf => (ih f hf).1) (fun f hf => (ih f hf).2)
    exact ⟨field_of _ (fun k => value_of k _ hp) hp, usual_of _ hs (fun g hg => (ih g hg).2)⟩
theorem fields_ok : ∀ fs : List Fld, Fld.oksb fs = true → ∀ f ∈ fs, FieldOK f ∧ Yh8 f
  | [], _, f, hf => by cases hf
  | g :: fs, h, f, hf => by
    simp only [Fld.oksb, Bool.and_eq_true] at h
    have hg := field_ok g h.1
    have hr := fields_ok fs h.2
    rcases List.mem_cons.1 hf with h0 | h1
    · rw [h0]; exact hg
    · exact hr f h1
end
theorem part_ok (fs : List Fld) (h : Yb7 fs = true) : PartOK fs := by
  have ih := fields_ok fs (by simp only [Yb7, Bool.and_eq_true] at h; exact h.1)
  exact part_of fs h (fun f hf => (ih f hf).1) (fun f hf => (ih f hf).2)
end Go.Proofs.YtmihblfjhoblmaaGreatDoor

/- The bounds that the statements ask, and the reference's message at a version. -/
namespace Go.Proofs.YtmihblfjhoblmaaGreatDoor
open Go Go.RowKit

section
set_option maxRecDepth 100000
theorem fn_fits3 (kv : Nat × List UInt8) (B : Nat) (w : World) (ts : List Value) (ht : Rep (Lo B) w (Yj6 kv) ts) : Fn 23 [.agg ts.toArray] w fun v _ => ∃ b : Bool, v = .bool b := by
  obtain ⟨sv, rfl, hs⟩ := JF ht
  obtain ⟨sa, sc, rfl, _⟩ := hs.shape
  refine enter Tryz.func23 rfl Tryz.ntmps23 rfl ?_
  repeat first|(with_reducible first|apply Yk|apply Yd|apply Ym|apply Yj|apply Yh|apply Yi|apply Yn|apply Yl|apply Ye|apply Yg|apply Yr|apply Yc|apply Yf|apply Yb|apply Ya)|((with_reducible apply ws);exact rfl;exact rfl)|((with_reducible apply Yo);exact rfl;exact rfl;exact rfl)|((with_reducible apply Yq);exact rfl;exact rfl;exact rfl;exact rfl)|((with_reducible apply Yp);exact rfl;exact rfl;exact rfl)
  refine Xt rfl rfl rfl (fun w1 hb1 hg1 hs1 => ?_)
  have hw1 : Below w.heap.size w w1 := Yx hg1 (Nat.le_refl _) (by simp)
  repeat first|(with_reducible first|apply Yk|apply Yd|apply Ym|apply Yj|apply Yh|apply Yi|apply Yn|apply Yl|apply Ye|apply Yg|apply Yr|apply Yc|apply Yf|apply Yb|apply Ya)|((with_reducible apply ws);exact rfl;exact rfl)|((with_reducible apply Yo);exact rfl;exact rfl;exact rfl)|((with_reducible apply Yq);exact rfl;exact rfl;exact rfl;exact rfl)|((with_reducible apply Yp);exact rfl;exact rfl;exact rfl)
  refine Yv rfl to_bytes rfl hb1 rfl ?_
  repeat first|(with_reducible first|apply Yk|apply Yd|apply Ym|apply Yj|apply Yh|apply Yi|apply Yn|apply Yl|apply Ye|apply Yg|apply Yr|apply Yc|apply Yf|apply Yb|apply Ya)|((with_reducible apply ws);exact rfl;exact rfl)|((with_reducible apply Yo);exact rfl;exact rfl;exact rfl)|((with_reducible apply Yq);exact rfl;exact rfl;exact rfl;exact rfl)|((with_reducible apply Yp);exact rfl;exact rfl;exact rfl)
  by_cases h : (2147483647 : Int) < ((kv.2.map byteD).length : Int)
  · refine Yz rfl (by simpa using h) ?_
    repeat first|(with_reducible first|apply Yk|apply Yd|apply Ym|apply Yj|apply Yh|apply Yi|apply Yn|apply Yl|apply Ye|apply Yg|apply Yr|apply Yc|apply Yf|apply Yb|apply Ya)|((with_reducible apply ws);exact rfl;exact rfl)|((with_reducible apply Yo);exact rfl;exact rfl;exact rfl)|((with_reducible apply Yq);exact rfl;exact rfl;exact rfl;exact rfl)|((with_reducible apply Yp);exact rfl;exact rfl;exact rfl)
    exact Yt rfl rfl ⟨_, rfl, hw1, _, rfl⟩
  · refine YE rfl (by simpa using h) ?_
    repeat first|(with_reducible first|apply Yk|apply Yd|apply Ym|apply Yj|apply Yh|apply Yi|apply Yn|apply Yl|apply Ye|apply Yg|apply Yr|apply Yc|apply Yf|apply Yb|apply Ya)|((with_reducible apply ws);exact rfl;exact rfl)|((with_reducible apply Yo);exact rfl;exact rfl;exact rfl)|((with_reducible apply Yq);exact rfl;exact rfl;exact rfl;exact rfl)|((with_reducible apply Yp);exact rfl;exact rfl;exact rfl)
    exact Yt rfl rfl ⟨_, rfl, hw1, _, rfl⟩
theorem fn_fits2 (u : List (Nat × List UInt8)) (B : Nat) (w : World) (uv : Value) (hB : B ≤ w.heap.size) (hu : Sq B w uv (u.map Yj6)) : Fn 14 [uv] w fun v _ => ∃ b : Bool, v = .bool b := by
  obtain ⟨ua, uc, rfl, _⟩ := hu.shape
  refine enter Tryz.func14 rfl Tryz.ntmps14 rfl ?_
  repeat first|(with_reducible first|apply Yk|apply Yd|apply Ym|apply Yj|apply Yh|apply Yi|apply Yn|apply Yl|apply Ye|apply Yg|apply Yr|apply Yc|apply Yf|apply Yb|apply Ya)|((with_reducible apply ws);exact rfl;exact rfl)|((with_reducible apply Yo);exact rfl;exact rfl;exact rfl)|((with_reducible apply Yq);exact rfl;exact rfl;exact rfl;exact rfl)|((with_reducible apply Yp);exact rfl;exact rfl;exact rfl)
  by_cases h : (2147483647 : Int) < ((u.map Yj6).length : Int)
  · refine Yz rfl (by simpa using h) ?_
    repeat first|(with_reducible first|apply Yk|apply Yd|apply Ym|apply Yj|apply Yh|apply Yi|apply Yn|apply Yl|apply Ye|apply Yg|apply Yr|apply Yc|apply Yf|apply Yb|apply Ya)|((with_reducible apply ws);exact rfl;exact rfl)|((with_reducible apply Yo);exact rfl;exact rfl;exact rfl)|((with_reducible apply Yq);exact rfl;exact rfl;exact rfl;exact rfl)|((with_reducible apply Yp);exact rfl;exact rfl;exact rfl)
    exact Yt rfl rfl ⟨_, rfl, Below.refl _ _, _, rfl⟩
  · refine YE rfl (by simpa using h) ?_
    repeat first|(with_reducible first|apply Yk|apply Yd|apply Ym|apply Yj|apply Yh|apply Yi|apply Yn|apply Yl|apply Ye|apply Yg|apply Yr|apply Yc|apply Yf|apply Yb|apply Ya)|((with_reducible apply ws);exact rfl;exact rfl)|((with_reducible apply Yo);exact rfl;exact rfl;exact rfl)|((with_reducible apply Yq);exact rfl;exact rfl;exact rfl;exact rfl)|((with_reducible apply Yp);exact rfl;exact rfl;exact rfl)
    rw [List.length_map] at *
    refine XH (α := Nat) (fun i => [(10, .int .i64 (i : Int)), (9, .int .i64 (u.length : Int)), (8, .slice ua u.length uc)]) (fun i w' => i ≤ u.length ∧ Below w.heap.size w w') (fun i => u.length - i) 0 ⟨rfl, rfl, rfl, trivial⟩ ⟨Nat.zero_le _, Below.refl _ _⟩ ?_
    rintro i w1 ⟨hi, hw1⟩
    repeat first|(with_reducible first|apply Yk|apply Yd|apply Ym|apply Yj|apply Yh|apply Yi|apply Yn|apply Yl|apply Ye|apply Yg|apply Yr|apply Yc|apply Yf|apply Yb|apply Ya)|((with_reducible apply ws);exact rfl;exact rfl)|((with_reducible apply Yo);exact rfl;exact rfl;exact rfl)|((with_reducible apply Yq);exact rfl;exact rfl;exact rfl;exact rfl)|((with_reducible apply Yp);exact rfl;exact rfl;exact rfl)
    by_cases hlt : i < u.length
    · refine Yz rfl (by simpa using hlt) ?_
      obtain ⟨b, off, c', cs, hv, hbB, hcs, hlen, hr⟩ := (hu.below (hw1.mono hB) (Nat.le_refl _)).get (sz := 2) (i := i) (by intro d hd; obtain ⟨x, _, rfl⟩ := List.mem_map.1 hd; exact Yc4 x) (by simpa using hlt)
      simp only [Value.slice.injEq, List.length_map] at hv
      obtain ⟨rfl, _, rfl⟩ := hv
      simp only [List.getElem_map] at hr
      obtain ⟨hcone, _⟩ := tag_one hr
      repeat first|(with_reducible first|apply Yk|apply Yd|apply Ym|apply Yj|apply Yh|apply Yi|apply Yn|apply Yl|apply Ye|apply Yg|apply Yr|apply Yc|apply Yf|apply Yb|apply Ya)|((with_reducible apply ws);exact rfl;exact rfl)|((with_reducible apply Yo);exact rfl;exact rfl;exact rfl)|((with_reducible apply Yq);exact rfl;exact rfl;exact rfl;exact rfl)|((with_reducible apply Yp);exact rfl;exact rfl;exact rfl)
      refine YD rfl rfl es_tags rfl hlt ?_
      refine XP rfl (by rw [hlen]; exact ta_tag) rfl (fun j v e => hcs.cell e) ?_
      refine Xu zv_tag rfl rfl (fun w8 hb8 hg8 hs8 => ?_)
      refine Xg rfl rfl rfl (by rw [hlen]; exact tz_tag) hcone hb8 (by rw [hlen]; rfl) (fun w9 hb9 hg9 hs9 => ?_)
      have hs1 := hw1.size
      have hw19 : Below w1.heap.size w1 w9 := (Yx hg8 (Nat.le_refl _) (by simp)).trans (Yx hg9 (by omega) (by intro k hk; simp at hk; omega))
      have hs19 := hw19.size
      repeat first|(with_reducible first|apply Yk|apply Yd|apply Ym|apply Yj|apply Yh|apply Yi|apply Yn|apply Yl|apply Ye|apply Yg|apply Yr|apply Yc|apply Yf|apply Yb|apply Ya)|((with_reducible apply ws);exact rfl;exact rfl)|((with_reducible apply Yo);exact rfl;exact rfl;exact rfl)|((with_reducible apply Yq);exact rfl;exact rfl;exact rfl;exact rfl)|((with_reducible apply Yp);exact rfl;exact rfl;exact rfl)
      refine YW rfl (by rw [hlen]; exact ta_tag) rfl hb9 ?_
      refine Yu rfl (by kernel_rfl) rfl ((fn_fits3 u[i] B w9 _ (Rep.below hr (hw19.mono (by omega)) (Nat.le_refl _))).mono ?_)
      rintro e w10 ⟨v, rfl, hw10, q, rfl⟩
      refine ⟨_, rfl, ?_⟩
      repeat first|(with_reducible first|apply Yk|apply Yd|apply Ym|apply Yj|apply Yh|apply Yi|apply Yn|apply Yl|apply Ye|apply Yg|apply Yr|apply Yc|apply Yf|apply Yb|apply Ya)|((with_reducible apply ws);exact rfl;exact rfl)|((with_reducible apply Yo);exact rfl;exact rfl;exact rfl)|((with_reducible apply Yq);exact rfl;exact rfl;exact rfl;exact rfl)|((with_reducible apply Yp);exact rfl;exact rfl;exact rfl)
      cases q
      · refine Yz rfl rfl ?_
        repeat first|(with_reducible first|apply Yk|apply Yd|apply Ym|apply Yj|apply Yh|apply Yi|apply Yn|apply Yl|apply Ye|apply Yg|apply Yr|apply Yc|apply Yf|apply Yb|apply Ya)|((with_reducible apply ws);exact rfl;exact rfl)|((with_reducible apply Yo);exact rfl;exact rfl;exact rfl)|((with_reducible apply Yq);exact rfl;exact rfl;exact rfl;exact rfl)|((with_reducible apply Yp);exact rfl;exact rfl;exact rfl)
        exact Yt rfl rfl ⟨_, rfl, (hw1.trans (hw19.mono hs1)).trans (hw10.mono (by omega)), _, rfl⟩
      · refine YE rfl rfl ?_
        repeat first|(with_reducible first|apply Yk|apply Yd|apply Ym|apply Yj|apply Yh|apply Yi|apply Yn|apply Yl|apply Ye|apply Yg|apply Yr|apply Yc|apply Yf|apply Yb|apply Ya)|((with_reducible apply ws);exact rfl;exact rfl)|((with_reducible apply Yo);exact rfl;exact rfl;exact rfl)|((with_reducible apply Yq);exact rfl;exact rfl;exact rfl;exact rfl)|((with_reducible apply Yp);exact rfl;exact rfl;exact rfl)
        refine Xm rfl rfl rfl (r := ((i + 1 : Nat) : Int)) (by rw [IntKind.wrap_i64]; omega) ?_
        repeat first|(with_reducible first|apply Yk|apply Yd|apply Ym|apply Yj|apply Yh|apply Yi|apply Yn|apply Yl|apply Ye|apply Yg|apply Yr|apply Yc|apply Yf|apply Yb|apply Ya)|((with_reducible apply ws);exact rfl;exact rfl)|((with_reducible apply Yo);exact rfl;exact rfl;exact rfl)|((with_reducible apply Yq);exact rfl;exact rfl;exact rfl;exact rfl)|((with_reducible apply Yp);exact rfl;exact rfl;exact rfl)
        exact YU (i + 1) ⟨rfl, rfl, rfl, trivial⟩ ⟨by omega, (hw1.trans (hw19.mono hs1)).trans (hw10.mono (by omega))⟩ (by omega)
    · refine YE rfl (by simpa using hlt) ?_
      repeat first|(with_reducible first|apply Yk|apply Yd|apply Ym|apply Yj|apply Yh|apply Yi|apply Yn|apply Yl|apply Ye|apply Yg|apply Yr|apply Yc|apply Yf|apply Yb|apply Ya)|((with_reducible apply ws);exact rfl;exact rfl)|((with_reducible apply Yo);exact rfl;exact rfl;exact rfl)|((with_reducible apply Yq);exact rfl;exact rfl;exact rfl;exact rfl)|((with_reducible apply Yp);exact rfl;exact rfl;exact rfl)
      exact Yt rfl rfl ⟨_, rfl, hw1, _, rfl⟩
theorem fn_fits1 (t : Tree) (B : Nat) (w : World) (ts : List Value) (hB : B ≤ w.heap.size) (ht : Rep (Lo B) w (treeD t) ts) : Fn 5 [.agg ts.toArray] w fun v _ => ∃ b : Bool, v = .bool b := by
  obtain ⟨sv, lv, uv, rfl, hs, hl, hu⟩ := XO ht
  obtain ⟨la, lc, rfl, _⟩ := hl.shape
  obtain ⟨sa, sc, rfl, _⟩ := hs.shape
  refine enter Tryz.func5 rfl Tryz.ntmps5 rfl ?_
  repeat first|(with_reducible first|apply Yk|apply Yd|apply Ym|apply Yj|apply Yh|apply Yi|apply Yn|apply Yl|apply Ye|apply Yg|apply Yr|apply Yc|apply Yf|apply Yb|apply Ya)|((with_reducible apply ws);exact rfl;exact rfl)|((with_reducible apply Yo);exact rfl;exact rfl;exact rfl)|((with_reducible apply Yq);exact rfl;exact rfl;exact rfl;exact rfl)|((with_reducible apply Yp);exact rfl;exact rfl;exact rfl)
  refine Xt rfl rfl rfl (fun w1 hb1 hg1 hs1 => ?_)
  have hw1 : Below w.heap.size w w1 := Yx hg1 (Nat.le_refl _) (by simp)
  repeat first|(with_reducible first|apply Yk|apply Yd|apply Ym|apply Yj|apply Yh|apply Yi|apply Yn|apply Yl|apply Ye|apply Yg|apply Yr|apply Yc|apply Yf|apply Yb|apply Ya)|((with_reducible apply ws);exact rfl;exact rfl)|((with_reducible apply Yo);exact rfl;exact rfl;exact rfl)|((with_reducible apply Yq);exact rfl;exact rfl;exact rfl;exact rfl)|((with_reducible apply Yp);exact rfl;exact rfl;exact rfl)
  refine Yv rfl to_bytes rfl hb1 rfl ?_
  repeat first|(with_reducible first|apply Yk|apply Yd|apply Ym|apply Yj|apply Yh|apply Yi|apply Yn|apply Yl|apply Ye|apply Yg|apply Yr|apply Yc|apply Yf|apply Yb|apply Ya)|((with_reducible apply ws);exact rfl;exact rfl)|((with_reducible apply Yo);exact rfl;exact rfl;exact rfl)|((with_reducible apply Yq);exact rfl;exact rfl;exact rfl;exact rfl)|((with_reducible apply Yp);exact rfl;exact rfl;exact rfl)
  by_cases h : (2147483647 : Int) < ((t.s.map byteD).length : Int)
  · refine Yz rfl (by simpa using h) ?_
    repeat first|(with_reducible first|apply Yk|apply Yd|apply Ym|apply Yj|apply Yh|apply Yi|apply Yn|apply Yl|apply Ye|apply Yg|apply Yr|apply Yc|apply Yf|apply Yb|apply Ya)|((with_reducible apply ws);exact rfl;exact rfl)|((with_reducible apply Yo);exact rfl;exact rfl;exact rfl)|((with_reducible apply Yq);exact rfl;exact rfl;exact rfl;exact rfl)|((with_reducible apply Yp);exact rfl;exact rfl;exact rfl)
    exact Yt rfl rfl ⟨_, rfl, hw1, _, rfl⟩
  · refine YE rfl (by simpa using h) ?_
    repeat first|(with_reducible first|apply Yk|apply Yd|apply Ym|apply Yj|apply Yh|apply Yi|apply Yn|apply Yl|apply Ye|apply Yg|apply Yr|apply Yc|apply Yf|apply Yb|apply Ya)|((with_reducible apply ws);exact rfl;exact rfl)|((with_reducible apply Yo);exact rfl;exact rfl;exact rfl)|((with_reducible apply Yq);exact rfl;exact rfl;exact rfl;exact rfl)|((with_reducible apply Yp);exact rfl;exact rfl;exact rfl)
    refine Yv rfl to_trees rfl hb1 rfl ?_
    repeat first|(with_reducible first|apply Yk|apply Yd|apply Ym|apply Yj|apply Yh|apply Yi|apply Yn|apply Yl|apply Ye|apply Yg|apply Yr|apply Yc|apply Yf|apply Yb|apply Ya)|((with_reducible apply ws);exact rfl;exact rfl)|((with_reducible apply Yo);exact rfl;exact rfl;exact rfl)|((with_reducible apply Yq);exact rfl;exact rfl;exact rfl;exact rfl)|((with_reducible apply Yp);exact rfl;exact rfl;exact rfl)
    by_cases h : (2147483647 : Int) < ((t.l.map treeD).length : Int)
    · refine Yz rfl (by simpa using h) ?_
      repeat first|(with_reducible first|apply Yk|apply Yd|apply Ym|apply Yj|apply Yh|apply Yi|apply Yn|apply Yl|apply Ye|apply Yg|apply Yr|apply Yc|apply Yf|apply Yb|apply Ya)|((with_reducible apply ws);exact rfl;exact rfl)|((with_reducible apply Yo);exact rfl;exact rfl;exact rfl)|((with_reducible apply Yq);exact rfl;exact rfl;exact rfl;exact rfl)|((with_reducible apply Yp);exact rfl;exact rfl;exact rfl)
      exact Yt rfl rfl ⟨_, rfl, hw1, _, rfl⟩
    · refine YE rfl (by simpa using h) ?_
      repeat first|(with_reducible first|apply Yk|apply Yd|apply Ym|apply Yj|apply Yh|apply Yi|apply Yn|apply Yl|apply Ye|apply Yg|apply Yr|apply Yc|apply Yf|apply Yb|apply Ya)|((with_reducible apply ws);exact rfl;exact rfl)|((with_reducible apply Yo);exact rfl;exact rfl;exact rfl)|((with_reducible apply Yq);exact rfl;exact rfl;exact rfl;exact rfl)|((with_reducible apply Yp);exact rfl;exact rfl;exact rfl)
      refine Yv rfl to_tags rfl hb1 rfl ?_
      refine Yu rfl (by kernel_rfl) rfl ((fn_fits2 t.u B w1 _ (by omega) (hu.below (hw1.mono hB) (Nat.le_refl _))).mono ?_)
      rintro e w2 ⟨v, rfl, hw2, q, rfl⟩
      refine ⟨_, rfl, ?_⟩
      repeat first|(with_reducible first|apply Yk|apply Yd|apply Ym|apply Yj|apply Yh|apply Yi|apply Yn|apply Yl|apply Ye|apply Yg|apply Yr|apply Yc|apply Yf|apply Yb|apply Ya)|((with_reducible apply ws);exact rfl;exact rfl)|((with_reducible apply Yo);exact rfl;exact rfl;exact rfl)|((with_reducible apply Yq);exact rfl;exact rfl;exact rfl;exact rfl)|((with_reducible apply Yp);exact rfl;exact rfl;exact rfl)
      cases q
      · refine Yz rfl rfl ?_
        repeat first|(with_reducible first|apply Yk|apply Yd|apply Ym|apply Yj|apply Yh|apply Yi|apply Yn|apply Yl|apply Ye|apply Yg|apply Yr|apply Yc|apply Yf|apply Yb|apply Ya)|((with_reducible apply ws);exact rfl;exact rfl)|((with_reducible apply Yo);exact rfl;exact rfl;exact rfl)|((with_reducible apply Yq);exact rfl;exact rfl;exact rfl;exact rfl)|((with_reducible apply Yp);exact rfl;exact rfl;exact rfl)
        exact Yt rfl rfl ⟨_, rfl, hw1.trans (hw2.mono (by omega)), _, rfl⟩
      · refine YE rfl rfl ?_
        repeat first|(with_reducible first|apply Yk|apply Yd|apply Ym|apply Yj|apply Yh|apply Yi|apply Yn|apply Yl|apply Ye|apply Yg|apply Yr|apply Yc|apply Yf|apply Yb|apply Ya)|((with_reducible apply ws);exact rfl;exact rfl)|((with_reducible apply Yo);exact rfl;exact rfl;exact rfl)|((with_reducible apply Yq);exact rfl;exact rfl;exact rfl;exact rfl)|((with_reducible apply Yp);exact rfl;exact rfl;exact rfl)
        exact Yt rfl rfl ⟨_, rfl, hw1.trans (hw2.mono (by omega)), _, rfl⟩

theorem fn_write (m : Msg) (hm : Yb7 m.fields = true) (ver : Int) (t : Tree) (B : Nat) (w : World) (fv : Value) (ts : List Value) (hok : t.ok) (hB : B ≤ w.heap.size) (hf : Sq B w fv (m.fields.map fldD)) (ht : Rep (Lo B) w (treeD t) ts) (hlim : (write m ver t).length ≤ lim) :
    Fn 9 [.agg #[fv, .int .i64 m.flex], .int .i64 ver, .agg ts.toArray] w fun v w' => Own w' w.heap.size 5 v (write m ver t) := by
  obtain ⟨sv, lv, uv, rfl, _, _, _⟩ := XO ht
  obtain ⟨fa, fc, rfl, _⟩ := hf.shape
  refine enter Tryz.func9 rfl Tryz.ntmps9 rfl ?_
  repeat first|(with_reducible first|apply Yk|apply Yd|apply Ym|apply Yj|apply Yh|apply Yi|apply Yn|apply Yl|apply Ye|apply Yg|apply Yr|apply Yc|apply Yf|apply Yb|apply Ya)|((with_reducible apply ws);exact rfl;exact rfl)|((with_reducible apply Yo);exact rfl;exact rfl;exact rfl)|((with_reducible apply Yq);exact rfl;exact rfl;exact rfl;exact rfl)|((with_reducible apply Yp);exact rfl;exact rfl;exact rfl)
  refine Xt (cs := [.slice fa (m.fields.map fldD).length fc, .int .i64 m.flex]) rfl rfl rfl (fun w1 hb1 hg1 hs1 => Xt rfl rfl rfl (fun w2 hb2 hg2 hs2 => ?_))
  have hb12 := hb1.kept hg2 (by simp)
  have hw2 : Below w.heap.size w w2 := (Yx hg1 (Nat.le_refl _) (by simp)).trans (Yx hg2 (by omega) (by simp))
  have hcall : ∀ flex, m.flexible ver = flex → _ := fun flex hfx => part_ok m.fields hm flex ver t B w2 _ _ hok (by omega) (hf.below (hw2.mono hB) (Nat.le_refl _)) (ht.below (hw2.mono hB) (Nat.le_refl _)) (by rw [← hfx]; exact hlim)
  repeat first|(with_reducible first|apply Yk|apply Yd|apply Ym|apply Yj|apply Yh|apply Yi|apply Yn|apply Yl|apply Ye|apply Yg|apply Yr|apply Yc|apply Yf|apply Yb|apply Ya)|((with_reducible apply ws);exact rfl;exact rfl)|((with_reducible apply Yo);exact rfl;exact rfl;exact rfl)|((with_reducible apply Yq);exact rfl;exact rfl;exact rfl;exact rfl)|((with_reducible apply Yp);exact rfl;exact rfl;exact rfl)
  refine Yv rfl to_flds rfl hb12 rfl ?_
  repeat first|(with_reducible first|apply Yk|apply Yd|apply Ym|apply Yj|apply Yh|apply Yi|apply Yn|apply Yl|apply Ye|apply Yg|apply Yr|apply Yc|apply Yf|apply Yb|apply Ya)|((with_reducible apply ws);exact rfl;exact rfl)|((with_reducible apply Yo);exact rfl;exact rfl;exact rfl)|((with_reducible apply Yq);exact rfl;exact rfl;exact rfl;exact rfl)|((with_reducible apply Yp);exact rfl;exact rfl;exact rfl)
  refine Yv rfl to_int rfl hb12 rfl ?_
  repeat first|(with_reducible first|apply Yk|apply Yd|apply Ym|apply Yj|apply Yh|apply Yi|apply Yn|apply Yl|apply Ye|apply Yg|apply Yr|apply Yc|apply Yf|apply Yb|apply Ya)|((with_reducible apply ws);exact rfl;exact rfl)|((with_reducible apply Yo);exact rfl;exact rfl;exact rfl)|((with_reducible apply Yq);exact rfl;exact rfl;exact rfl;exact rfl)|((with_reducible apply Yp);exact rfl;exact rfl;exact rfl)
  by_cases h0 : 0 ≤ m.flex
  · have e1 : decide (0 ≤ m.flex) = true := by simpa using h0
    rw [e1]
    repeat first|(with_reducible first|apply Yk|apply Yd|apply Ym|apply Yj|apply Yh|apply Yi|apply Yn|apply Yl|apply Ye|apply Yg|apply Yr|apply Yc|apply Yf|apply Yb|apply Ya)|((with_reducible apply ws);exact rfl;exact rfl)|((with_reducible apply Yo);exact rfl;exact rfl;exact rfl)|((with_reducible apply Yq);exact rfl;exact rfl;exact rfl;exact rfl)|((with_reducible apply Yp);exact rfl;exact rfl;exact rfl)
    refine Yv rfl to_int rfl hb12 rfl ?_
    repeat first|(with_reducible first|apply Yk|apply Yd|apply Ym|apply Yj|apply Yh|apply Yi|apply Yn|apply Yl|apply Ye|apply Yg|apply Yr|apply Yc|apply Yf|apply Yb|apply Ya)|((with_reducible apply ws);exact rfl;exact rfl)|((with_reducible apply Yo);exact rfl;exact rfl;exact rfl)|((with_reducible apply Yq);exact rfl;exact rfl;exact rfl;exact rfl)|((with_reducible apply Yp);exact rfl;exact rfl;exact rfl)
    refine YW (cs := [.int .i64 t.n, sv, .bool t.nul, lv, uv]) rfl ta_tree rfl hb2 ?_
    refine Yu rfl (by kernel_rfl) rfl ((hcall (decide (m.flex ≤ ver)) (by simp [Msg.flexible, h0])).mono ?_)
    rintro e w3 ⟨v, rfl, hw3, ho⟩
    refine ⟨v, rfl, ?_⟩
    repeat first|(with_reducible first|apply Yk|apply Yd|apply Ym|apply Yj|apply Yh|apply Yi|apply Yn|apply Yl|apply Ye|apply Yg|apply Yr|apply Yc|apply Yf|apply Yb|apply Ya)|((with_reducible apply ws);exact rfl;exact rfl)|((with_reducible apply Yo);exact rfl;exact rfl;exact rfl)|((with_reducible apply Yq);exact rfl;exact rfl;exact rfl;exact rfl)|((with_reducible apply Yp);exact rfl;exact rfl;exact rfl)
    have e2 : m.flexible ver = decide (m.flex ≤ ver) := by simp [Msg.flexible, h0]
    refine Yt rfl rfl ⟨_, rfl, hw2.trans (hw3.mono (by omega)), ?_⟩
    rw [write, e2]
    exact ho.mono (by omega)
  · have e1 : decide (0 ≤ m.flex) = false := by simpa using h0
    rw [e1]
    repeat first|(with_reducible first|apply Yk|apply Yd|apply Ym|apply Yj|apply Yh|apply Yi|apply Yn|apply Yl|apply Ye|apply Yg|apply Yr|apply Yc|apply Yf|apply Yb|apply Ya)|((with_reducible apply ws);exact rfl;exact rfl)|((with_reducible apply Yo);exact rfl;exact rfl;exact rfl)|((with_reducible apply Yq);exact rfl;exact rfl;exact rfl;exact rfl)|((with_reducible apply Yp);exact rfl;exact rfl;exact rfl)
    refine YW (cs := [.int .i64 t.n, sv, .bool t.nul, lv, uv]) rfl ta_tree rfl hb2 ?_
    refine Yu rfl (by kernel_rfl) rfl ((hcall false (by simp [Msg.flexible, h0])).mono ?_)
    rintro e w3 ⟨v, rfl, hw3, ho⟩
    refine ⟨v, rfl, ?_⟩
    repeat first|(with_reducible first|apply Yk|apply Yd|apply Ym|apply Yj|apply Yh|apply Yi|apply Yn|apply Yl|apply Ye|apply Yg|apply Yr|apply Yc|apply Yf|apply Yb|apply Ya)|((with_reducible apply ws);exact rfl;exact rfl)|((with_reducible apply Yo);exact rfl;exact rfl;exact rfl)|((with_reducible apply Yq);exact rfl;exact rfl;exact rfl;exact rfl)|((with_reducible apply Yp);exact rfl;exact rfl;exact rfl)
    have e2 : m.flexible ver = false := by simp [Msg.flexible, h0]
    refine Yt rfl rfl ⟨_, rfl, hw2.trans (hw3.mono (by omega)), ?_⟩
    rw [write, e2]
    exact ho.mono (by omega)
end
end Go.Proofs.YtmihblfjhoblmaaGreatDoor

/- A part read out of a struct's value; a slice of one element. Over any program. -/
namespace Go.Proofs.YtmihblfjhoblmaaGreatDoor
open Go Go.RowKit

/-- Where a field of one cell lies. -/
def partOff (P : Program) (s f : Nat) : Option Nat :=
  match P.underlying s with
  | some (.struct fs) => (match fs[f]? with | some fd => (if XS P fd.type then some fd.offset else none) | none => none)
  | _ => none
section
variable {P : Program} {ops : Array Oper} {Q : Exit → Act → World → Prop} {N : Nat} {rest : List Oper} {L : Sl} {w : World} {d : Nat} {ty : TypeId} {pos : String} {aft : Array Edge}
theorem wl_slice1 {t e sz : Nat} {x : Operand} {v : Value} {cs : List Value} (hT : Yc1 P t e sz = true) (hx : ev L x = some v) (hv : v.cells = cs.toArray) (hc : cs.length = sz) (hsz : (Nat.blt 0 sz && Nat.ble sz 1000) = true) (hd : Nat.blt d N = true)
    (h : ∀ w', Box w' w.heap.size cs e → w.grownBy w' none → w'.heap.size = w.heap.size + 1 → WL rest P ops Q N ((d, .slice (some ⟨w.heap.size, 0, none⟩) 1 1) :: L) w') :
    WL (⟨some d, .buildSlice t 1 #[(0, x)], ty, pos, aft, none⟩ :: rest) P ops Q N L w := by
  intro a k
  refine YR (o := ⟨some d, .buildSlice t 1 #[(0, x)], ty, pos, aft, none⟩) (v := .slice (some ⟨w.heap.size, 0, none⟩) 1 1) (w' := w.alloc (.cells cs.toArray e)) rfl ?_ (h _ (VI w cs e) (Vi w _) (by simp) _ (k.put _ hd))
  simp only [execOp, Sem.run_bind]
  have : Array.map (fun x => (x.1, a.eval x.2)) #[(0, x)] = #[(0, v)] := by simp [k.eval hx]
  rw [this, Ym4 hT hv hc hsz]
  simp
end
end Go.Proofs.YtmihblfjhoblmaaGreatDoor

/- Tables of fields: a slice of several elements, and what it says. Over any program. -/
namespace Go.Proofs.YtmihblfjhoblmaaGreatDoor
open Go Go.RowKit

theorem fill_many (sz : Nat) : ∀ (css : List (List Value)) (k : Nat) (pre post : List Value), pre.length = k * sz → (∀ cs ∈ css, cs.length = sz) → post.length = css.length * sz →
    Instr.fill (fun i => some (i * sz, sz)) (pre ++ post).toArray ((css.zipIdx k).map fun p => (p.2, Value.agg p.1.toArray)) = some (pre ++ css.flatten).toArray
  | [], k, pre, post, _, _, hl => by
    have : post = [] := List.length_eq_zero_iff.1 (by simpa using hl)
    subst this; simp [Instr.fill]
  | cs :: css, k, pre, post, hp, hc, hl => by
    have hcs := hc cs (by simp)
    simp only [List.length_cons, Nat.succ_mul] at hl
    obtain ⟨a, b, rfl, ha⟩ : ∃ a b, post = a ++ b ∧ a.length = sz := ⟨post.take sz, post.drop sz, (List.take_append_drop _ _).symm, by rw [List.length_take]; omega⟩
    have hb : b.length = css.length * sz := by rw [List.length_append] at hl; omega
    simp only [List.zipIdx_cons, List.map_cons, Instr.fill]
    have h1 : ¬ ((Value.agg cs.toArray).cells.size ≠ sz) := by simp [Value.cells, hcs]
    have h2 : ¬ (k * sz + (Value.agg cs.toArray).cells.size > (pre ++ (a ++ b)).toArray.size) := by simp [Value.cells, hcs, hp, ha]
    simp only [h1, h2, decide_false, Bool.or_false, Bool.false_eq_true, if_false]
    have hf := Yg1 (k * sz) cs 0 pre a (by simpa using hp) (by rw [ha, hcs])
    have hf2 : ((Value.agg cs.toArray).cells.zipIdx.foldl (fun cs p => cs.setIfInBounds (k * sz + p.2) p.1) (pre ++ (a ++ b)).toArray) = (pre ++ cs ++ b).toArray := by
      have hz : cs.toArray.zipIdx = (cs.zipIdx).toArray := by apply Array.ext'; simp
      simp only [Value.cells]
      rw [hz]
      simp only [List.foldl_toArray]
      have gen : ∀ (l : List Value) (j : Nat) (p q r : List Value), p.length = k * sz + j → q.length = l.length →
          (l.zipIdx j).foldl (fun cs p => cs.setIfInBounds (k * sz + p.2) p.1) (p ++ (q ++ r)).toArray = (p ++ (l ++ r)).toArray := by
        intro l
        induction l with
        | nil => intro j p q r _ hq; have : q = [] := List.length_eq_zero_iff.1 (by simpa using hq); subst this; rfl
        | cons v l ih =>
          intro j p q r hp hq
          cases q with
          | nil => cases hq
          | cons x q =>
            simp only [List.zipIdx_cons, List.foldl_cons]
            have hset : (p ++ (x :: q ++ r)).toArray.setIfInBounds (k * sz + j) v = ((p ++ [v]) ++ (q ++ r)).toArray := by
              rw [List.setIfInBounds_toArray, ← hp]; simp
            rw [hset, ih (j + 1) (p ++ [v]) q r (by simp [hp]; omega) (by simpa using hq)]
            simp
      have := gen cs 0 pre a b (by simpa using hp) (by rw [ha, hcs])
      simpa [List.append_assoc] using this
    rw [hf2]
    have ih := fill_many sz css (k + 1) (pre ++ cs) b (by simp [hp, hcs, Nat.succ_mul]) (fun c h => hc c (by simp [h])) hb
    rw [ih]
    simp
section
variable {P : Program} {ops : Array Oper} {Q : Exit → Act → World → Prop} {N : Nat} {rest : List Oper} {L : Sl} {w : World} {d : Nat} {ty : TypeId} {pos : String} {aft : Array Edge}
theorem JW {t e sz n : Nat} {ps : List (Nat × Operand)} {vs : List Value} (css : List (List Value)) (hT : Yc1 P t e sz = true) (hps : evp L 0 ps = some vs) (hvs : vs = css.map fun cs => Value.agg cs.toArray) (hlen : ∀ cs ∈ css, cs.length = sz) (hn : n = css.length) (hsz : (Nat.blt 0 sz && Nat.ble (n * sz) 16777216 && Nat.blt 0 n) = true) (hd : Nat.blt d N = true)
    (h : ∀ w', Box w' w.heap.size css.flatten e → w.grownBy w' none → w'.heap.size = w.heap.size + 1 → WL rest P ops Q N ((d, .slice (some ⟨w.heap.size, 0, none⟩) n n) :: L) w') :
    WL (⟨some d, .buildSlice t n ps.toArray, ty, pos, aft, none⟩ :: rest) P ops Q N L w := by
  intro a k
  obtain ⟨hu, i, z, hi, hs1, hb1, hz, hzc⟩ := JU hT
  simp only [Bool.and_eq_true] at hsz
  have hsz1 : 0 < sz := Nat.le_of_ble_eq_true hsz.1.1
  have hsz2 := Nat.le_of_ble_eq_true hsz.1.2
  have hn0 : 0 < n := Nat.le_of_ble_eq_true hsz.2
  refine YR (o := ⟨some d, .buildSlice t n ps.toArray, ty, pos, aft, none⟩) (v := .slice (some ⟨w.heap.size, 0, none⟩) n n) (w' := w.alloc (.cells css.flatten.toArray e)) rfl ?_ (h _ (VI w _ e) (Vi w _) (by simp) _ (k.put _ hd))
  have hparts := Ye3 k ps 0 _ hps
  have hm : (ps.toArray.map fun x => (x.1, a.eval x.2)).toList = (css.zipIdx 0).map fun p => (p.2, Value.agg p.1.toArray) := by
    rw [hvs] at hparts
    have e1 : (ps.toArray.map fun x => (x.1, a.eval x.2)).toList = ps.map fun p => (p.1, a.eval p.2) := by simp
    rw [e1, hparts]
    rw [List.zipIdx_map, List.map_map]
    rfl
  have hfill := fill_many sz css 0 [] ((List.range (n * sz)).map (z.cells[· % z.cells.size]!)) (by simp) hlen (by simp [hn])
  simp only [List.nil_append] at hfill
  have hmul : 0 < n * sz := Nat.mul_pos hn0 hsz1
  simp only [execOp, Instr.buildSlice]
  simp only [Sem.run_bind, run_underlying hu, Result.andThen_ok, sizeOf, typeInfo, run_program, hi, Sem.run_pure, hs1]
  rw [show ((2 : Nat) ^ 24) = 16777216 from rfl, if_neg (by omega), if_neg (by omega)]
  simp only [zeroValue, typeInfo, Sem.run_bind, run_program, Result.andThen_ok, hi, Sem.run_pure, hz]
  rw [hm, ← List.toArray_range, List.map_toArray, hfill]
  simp [newRow]
end
end Go.Proofs.YtmihblfjhoblmaaGreatDoor

/- internalReadTags at the seat; all contracts of the reader together. -/
namespace Go.Proofs.YtmihblfjhoblmaaGreatDoor.Rdk
open Go Go.RowKit

set_option maxRecDepth 100000
/-- What stands still to be read of the tags. -/
def TInv (st : Option (List UInt8)) (j : Nat) (u : List (Nat × List UInt8)) (st' : Option (List UInt8)) : Prop := match st with
  | none => st' = none
  | some s => match st' with
    | some s' => tagsP s = tagsR j u s'
    | none => tagsP s = none
theorem tinv_start {st st1 : Option (List UInt8)} {n : Nat} (h : UvRel st n st1) : TInv st n [] st1 := by
  have h2 := h.2
  cases st with
  | none => exact h2
  | some s =>
    simp only [TInv, tagsP] at h2 ⊢
    cases hx : XA s with
    | none => rw [hx] at h2; simp only [] at h2; subst h2; rfl
    | some x => rw [hx] at h2; obtain ⟨rfl, rfl⟩ := h2; rfl
theorem tinv_step {st s1 s2 s3 s4 : Option (List UInt8)} {j k l : Nat} {u : List (Nat × List UInt8)} {bs : List UInt8} (h : TInv st (j + 1) u s1) (h1 : UvRel s1 k s2) (h2 : UvRel s2 l s3) (h3 : Jt l s3 bs s4) : TInv st j (Vn k bs u) s4 := by
  have e1 := h1.2
  have e2 := h2.2
  cases st with
  | none =>
    simp only [TInv] at h ⊢
    subst h
    simp only [] at e1
    subst e1
    simp only [] at e2
    subst e2
    exact h3
  | some s =>
    cases s1 with
    | none =>
      simp only [TInv] at h
      simp only [] at e1
      subst e1
      simp only [] at e2
      subst e2
      have h4 : s4 = none := h3
      subst h4
      exact h
    | some t1 =>
      simp only [TInv, tagsR] at h
      simp only [] at e1
      cases hx : XA t1 with
      | none =>
        rw [hx] at h e1
        simp only [] at e1
        subst e1
        simp only [] at e2
        subst e2
        have h4 : s4 = none := h3
        subst h4
        exact h
      | some x =>
        rw [hx] at h e1
        obtain ⟨rfl, rfl⟩ := e1
        simp only [Option.bind_some] at h e2
        cases hy : XA x.2 with
        | none =>
          rw [hy] at h e2
          simp only [] at e2
          subst e2
          have h4 : s4 = none := h3
          subst h4
          exact h
        | some y =>
          rw [hy] at h e2
          obtain ⟨rfl, rfl⟩ := e2
          simp only [Option.bind_some] at h
          simp only [Jt, Up] at h3
          rw [if_neg (by omega), Int.toNat_natCast] at h3
          cases hz : Yh5 y.1 y.2 with
          | none => rw [hz] at h h3; simp only [] at h3; subst h3; exact h
          | some z => rw [hz] at h h3; obtain ⟨rfl, rfl⟩ := h3; exact h
theorem tinv_end {st st' : Option (List UInt8)} {u : List (Nat × List UInt8)} (h : TInv st 0 u st') : Yf8 st u st' := by
  unfold Yf8
  cases st with
  | none => exact h
  | some s =>
    cases st' with
    | none => simp only [TInv] at h; simp only [h]
    | some s' => simp only [TInv, tagsR] at h; simp only [h, and_self]
theorem chg_cut {w w' : World} {rb : Nat} (h : Chg (fun j => j = rb ∨ w.heap.size ≤ j) w w') : Chg (· = rb) w w' := ⟨h.os, h.tape, h.output, h.size, fun k hk hn => h.block k hk (by rintro (e | e); exact hn e; omega)⟩
theorem fn_tags (w : World) (rb sb lo : Nat) (st : Option (List UInt8)) (hr : Rdr w rb sb st) (h1 : rb < lo) (h2 : sb < lo) (h3 : lo ≤ w.heap.size) (h4 : rb ≠ sb) :
    Calls Tryz.prog 56 #[.pointer (some ⟨rb, 0, none⟩)] w fun e w' => ∃ m u st', e = .returned (.agg #[m]) ∧ Chg (· = rb) w w' ∧ Rdr w' rb sb st' ∧ m.oneCell' = true ∧ Rep (Dk sb lo w') w' (Ut u) [m] ∧ Yf8 st u st' := by
  refine enter Tryz.func56 rfl Tryz.ntmps56 rfl ?_
  refine Yk (Yd (Xu zv_tags rfl rfl (fun w1 hb1 hg1 hs1 => Ym (Yj ?_))))
  refine Yk (Yd (Xu zv_tags rfl rfl (fun w2 hb2 hg2 hs2 => Ym (Yj ?_))))
  have c1 : Chg (fun _ => False) w w1 := Chg.grown0 hg1
  have c2 : Chg (fun _ => False) w1 w2 := Chg.grown0 hg2
  have hb1' := hb1.chg c2 id
  have hr2 := (hr.chg c1 id id).chg c2 id id
  obtain ⟨B, hB⟩ : ∃ B, B = w.heap.size := ⟨_, rfl⟩
  rw [← hB] at hs1 hb1' h3
  rw [hs1] at hb2
  rw [hs1] at hs2
  refine Yk (Yk (Yd ?_))
  refine wt rfl rfl ?_
  refine Yu rfl (by kernel_rfl) rfl ((Ym5 w2 rb sb st hr2 h4).mono ?_)
  rintro en w3 ⟨n, st1, rfl, hc3, hr3, hrel⟩
  refine ⟨_, rfl, ?_⟩
  refine wt rfl rfl ?_
  refine Ym (Yj ?_)
  have hrb1 : ¬ (fun j => j = rb) B := fun e => by have : B = rb := e; omega
  have hrb2 : ¬ (fun j => j = rb) (B + 1) := fun e => by have : B + 1 = rb := e; omega
  have hs3 := hc3.size
  have c03 : Chg (fun j => j = rb ∨ B ≤ j) w w3 := ((c1.trans c2).wide (fun _ h => h.elim)).trans (hc3.wide (fun j hj => .inl hj))
  refine Yh (XH (α := Nat) (fun j => [(0, .pointer (some ⟨rb, 0, none⟩)), (2, .pointer (some ⟨B, 0, none⟩)), (3, .pointer (some ⟨B + 1, 0, none⟩)), (4, .int .u32 (j : Int))])
    (fun j w' => ∃ st' u m, j < 4294967296 ∧ Chg (fun j => j = rb ∨ B ≤ j) w w' ∧ Rdr w' rb sb st' ∧ Box w' B [.map none] 66 ∧ Box w' (B + 1) [m] 66 ∧ Yh7 w' sb (B + 2) m u ∧ TInv st j u st') (fun j => j) n
    ⟨rfl, by subst hB; rfl, by rw [← hs1]; rfl, rfl, trivial⟩ ⟨st1, [], .map none, hrel.1, c03, hr3, hb1'.chg hc3 hrb1, hb2.chg hc3 hrb2, .inl ⟨rfl, rfl⟩, tinv_start hrel⟩ ?_)
  rintro j w4 ⟨s1, u, m, hj, hc4, hr4, hbA, hbB, htm, hinv⟩
  have hs4 := hc4.size
  have nrb : ∀ r, B + 2 ≤ r → r < w4.heap.size → ¬ (fun j => j = rb) r := fun r h _ e => by have : r = rb := e; omega
  cases j with
  | zero =>
    refine Yk (Yk (Yd ?_))
    refine wt rfl rfl ?_
    refine wt rfl rfl ?_
    refine Ym (Yj (YE rfl (by simp) (Yl (Yc (Ya (Yf (Yj ?_)))))))
    refine Yk (Yd ?_)
    refine YW (cs := [m]) rfl ta_tags rfl hbB ?_
    refine Xg (vs := [m]) rfl rfl rfl tz_tags (by
      rcases htm with ⟨rfl, _⟩ | ⟨r, rfl, _⟩ <;> rfl) hbA rfl (fun w5 hb5 hg5 hs5 => ?_)
    refine Ym (Yj (Yn (UT (cs := [m]) rfl rfl ta_tags hb5 ?_)))
    have hc5 : Chg (· = B) w4 w5 := Chg.grown hg5
    have n5 : ∀ x : Nat, x < B ∨ B < x → ¬ (fun j => j = B) x := fun x h e => by have : x = B := e; omega
    have htm5 := htm.keep hc5 (fun r h _ => n5 r (by omega)) (n5 sb (by omega)) (by omega)
    refine ⟨m, u, s1, rfl, chg_cut (by rw [← hB]; exact hc4.trans (hc5.wide (fun j hj => .inr (by have : j = B := hj; omega)))), hr4.chg hc5 (n5 rb (by omega)) (n5 sb (by omega)), ?_, ?_, tinv_end hinv⟩
    · rcases htm with ⟨rfl, _⟩ | ⟨r, rfl, _⟩ <;> rfl
    · rcases htm5 with ⟨rfl, rfl⟩ | ⟨r, rfl, hlo, ht⟩
      · exact .inl ⟨rfl, rfl⟩
      · exact ht.rep (by omega) (by have := hc5.size; omega)
  | succ j =>
    refine Yk (Yk (Yd ?_))
    refine wt rfl rfl ?_
    refine wt rfl rfl ?_
    refine Ym (Yj (Yz rfl (by simp) (Yi (Yj ?_))))
    refine Yk (Yh (Yk (Yd ?_)))
    refine wt rfl rfl ?_
    refine Yu rfl (by kernel_rfl) rfl ((Ym5 w4 rb sb s1 hr4 h4).mono ?_)
    rintro en w5 ⟨key, s2, rfl, hc5, hr5, hrel5⟩
    refine ⟨_, rfl, ?_⟩
    refine wt rfl rfl ?_
    refine Yu rfl (by kernel_rfl) rfl ((Ym5 w5 rb sb s2 hr5 h4).mono ?_)
    rintro en w6 ⟨len, s3, rfl, hc6, hr6, hrel6⟩
    refine ⟨_, rfl, ?_⟩
    refine wt rfl rfl ?_
    refine wt rfl rfl ?_
    refine Ym (Yj (Yd ?_))
    refine wt rfl rfl ?_
    refine wt rfl rfl ?_
    refine wt rfl rfl ?_
    have hlen := hrel6.1
    refine YB .i64 (r := (len : Int)) rfl (by kernel_rfl) (by kernel_rfl) rfl (by rw [IntKind.wrap_i64]; omega) ?_
    refine Yu rfl (by kernel_rfl) rfl ((Yj9 w6 rb sb s3 (len : Int) hr6 h4).mono ?_)
    rintro en w7 ⟨v, bs, s4, rfl, hc7, hr7, hsv, _, hspan⟩
    refine ⟨_, rfl, ?_⟩
    have c47 : Chg (· = rb) w4 w7 := hc5.trans (hc6.trans hc7)
    have hs7 := c47.size
    have nB : ∀ x : Nat, B ≤ x → ¬ (fun j => j = rb) x := fun x h e => by have : x = rb := e; omega
    have hb7 := hbB.chg c47 (nB _ (by omega))
    have ht7 := htm.keep c47 nrb (fun e => h4 e.symm) (by omega)
    have hlt : B + 1 < w7.heap.size := hb7.lt
    refine Yu rfl (by kernel_rfl) rfl ((fn_set w7 (B + 1) sb (B + 2) key v m u _ bs hb7 ht7 hsv (by omega) (by omega) (by omega) (by omega)).mono ?_)
    rintro en w8 ⟨rfl, m', hb8, ht8, hc8⟩
    refine ⟨_, rfl, ?_⟩
    refine Ym (Yr (Yj (Yd ?_)))
    refine wt rfl rfl ?_
    refine UF (r := (j : Int)) rfl rfl rfl (by rw [IntKind.wrap_u32]; omega) ?_
    refine wt rfl rfl ?_
    have n8 : ∀ x : Nat, x < B + 1 → ¬ (fun j => j = B + 1 ∨ B + 2 ≤ j) x := fun x h e => by have : x = B + 1 ∨ B + 2 ≤ x := e; omega
    refine Ym (YU j ⟨rfl, rfl, rfl, rfl, trivial⟩ ⟨s4, Vn key bs u, m', by omega, ?_, hr7.chg hc8 (n8 rb (by omega)) (n8 sb (by omega)), (hbA.chg c47 (nB B (by omega))).chg hc8 (n8 B (by omega)), hb8, ht8, tinv_step hinv hrel5 hrel6 hspan⟩ (by omega))
    exact hc4.trans ((c47.wide (fun j hj => .inl hj)).trans (hc8.wide (fun j hj => .inr (by have : j = B + 1 ∨ B + 2 ≤ j := hj; omega))))
end Go.Proofs.YtmihblfjhoblmaaGreatDoor.Rdk

/- The package's reader at the seat: identifiers of XL octets. -/
namespace Go.Proofs.YtmihblfjhoblmaaGreatDoor.Rdk
open Go Go.RowKit

set_option maxRecDepth 100000
end Go.Proofs.YtmihblfjhoblmaaGreatDoor.Rdk

/- What the reading of code needs to know of the package's reader: at the seat (text printed by tools/krv.py). -/
namespace Go.Proofs.YtmihblfjhoblmaaGreatDoor.Rdk
open Go Go.RowKit

theorem allRd_nil {P : Program} : ∀ x ∈ ([] : List (Nat × Rp)), RdC P x.1 x.2 := fun x h => by cases h
theorem VG {P : Program} {f : Nat} {p : Rp} {l : List (Nat × Rp)} (h : RdC P f p) (hl : ∀ x ∈ l, RdC P x.1 x.2) : ∀ x ∈ (f, p) :: l, RdC P x.1 x.2 := fun x hx => by
  rcases List.mem_cons.1 hx with rfl | hm
  · exact h
  · exact hl x hm
theorem allLen_nil {P : Program} : ∀ x ∈ ([] : List (Nat × Bool)), LenC P x.1 x.2 := fun x h => by cases h
theorem Yi1 {P : Program} {f : Nat} {p : Bool} {l : List (Nat × Bool)} (h : LenC P f p) (hl : ∀ x ∈ l, LenC P x.1 x.2) : ∀ x ∈ (f, p) :: l, LenC P x.1 x.2 := fun x hx => by
  rcases List.mem_cons.1 hx with rfl | hm
  · exact h
  · exact hl x hm
theorem rpOf_mem : ∀ {l : List (Nat × Rp)} {f : Nat} {p : Rp}, rpOf l f = some p → (f, p) ∈ l
  | [], _, _, h => by cases h
  | x :: l, f, p, h => by
    simp only [rpOf] at h
    cases hb : Nat.beq x.1 f with
    | true =>
      rw [hb] at h
      simp only [cond_true, Option.some.injEq] at h
      rw [← Ys hb, ← h]
      exact List.mem_cons_self
    | false => rw [hb] at h; exact List.mem_cons_of_mem _ (rpOf_mem h)
theorem lcOf_mem : ∀ {l : List (Nat × Bool)} {f : Nat} {p : Bool}, lcOf l f = some p → (f, p) ∈ l
  | [], _, _, h => by cases h
  | x :: l, f, p, h => by
    simp only [lcOf] at h
    cases hb : Nat.beq x.1 f with
    | true =>
      rw [hb] at h
      simp only [cond_true, Option.some.injEq] at h
      rw [← Ys hb, ← h]
      exact List.mem_cons_self
    | false => rw [hb] at h; exact List.mem_cons_of_mem _ (lcOf_mem h)
def krFns : List (Nat × Rp) :=
  (62, .bool) ::
  (54, .i16) ::
  (53, .i32) ::
  (52, .str) ::
  (51, .cstr) ::
  (61, .nstr) ::
  (59, .cnstr) ::
  []
def krLens : List (Nat × Bool) :=
  (45, false) ::
  (44, true) ::
  []
theorem krFns_ok : ∀ x ∈ krFns, RdC Tryz.prog x.1 x.2 :=
  VG rd_bool <|
  VG rd_Int16 <|
  VG rd_Int32 <|
  VG rd_String <|
  VG rd_CompactString <|
  VG rd_NullableString <|
  VG rd_CompactNullableString <|
  allRd_nil
theorem krLens_ok : ∀ x ∈ krLens, LenC Tryz.prog x.1 x.2 :=
  Yi1 len_ArrayLen <|
  Yi1 len_CompactArrayLen <|
  allLen_nil
def kr : Kr where
  fns := krFns
  lens := krLens
  ok := 46
  comp := 47
  tags := 56
  rty := 93
theorem kr_ok (ev : Value) : KrOk Tryz.prog kr 0 ev where
  rd := fun f p h _ => krFns_ok _ (rpOf_mem h)
  len := fun f c h _ => krLens_ok _ (lcOf_mem h)
  tags := fun _ w rb sb lo st hr h1 h2 h3 h4 => fn_tags w rb sb lo st hr h1 h2 h3 h4
  ok := fun _ w rb sb st hr => fn_ok w rb sb st hr
  comp := fun _ w rb sb st hr hg => fn_complete w rb sb st ev hr hg
theorem kr_ty : KrTy Tryz.prog kr where
  built := fun a n c => by kernel_rfl
  zero := fun w => by kernel_rfl
  size := by kernel_rfl
end Go.Proofs.YtmihblfjhoblmaaGreatDoor.Rdk

/- What the laws on messages written behind octets rest on, beside the readings: tables of fields, copies of octets. -/
namespace Go.Proofs.YtmihblfjhoblmaaGreatDoor
open Go Go.RowKit

/-- A field's cells, where it has no parts. -/
def fldCells (f : Fld) : List Value := [.int .i64 f.kind, .int .i64 f.fr, .int .i64 f.upto, .int .i64 f.nul, .int .i64 f.tag, .int .i64 f.df, .int .i64 f.of, .slice none 0 0]
def noSub : List Fld → Bool
  | [] => true
  | f :: fs => f.sub.isEmpty && noSub fs
theorem VR (ok : Nat → Prop) (w : World) : ∀ (f : Fld), f.sub.isEmpty = true → Rep ok w (fldD f) (fldCells f)
  | .mk a b c d e f g sub, h => by
    have : sub = [] := by cases sub with | nil => rfl | cons _ _ => simp [Fld.sub] at h
    subst this
    simp only [fldD, fldDs, Rep, YX]
    exact ⟨[_], _, rfl, rfl, [_], _, rfl, rfl, [_], _, rfl, rfl, [_], _, rfl, rfl, [_], _, rfl, rfl, [_], _, rfl, rfl, [_], _, rfl, rfl, [_], _, rfl, ⟨none, 0, rfl, by simp, .inl (by simp)⟩, rfl⟩
/-- Fresh blocks. -/
def Frs (lo hi : Nat) : Nat → Prop := fun b => lo ≤ b ∧ b < hi
theorem rep_fr {lo : Nat} {w w' : World} {d : D} {cs : List Value} {lo' : Nat} (h : Rep (Frs lo w.heap.size) w d cs) (hb : Below w.heap.size w w') (hl : lo' ≤ lo) : Rep (Frs lo' w'.heap.size) w' d cs :=
  Rep.mono (fun b k => ⟨⟨Nat.le_trans hl k.1, Nat.lt_of_lt_of_le k.2 hb.size⟩, hb.block b k.2⟩) _ _ h
theorem rep_frw {lo lo' hi : Nat} {w : World} {d : D} {cs : List Value} (h : Rep (Frs lo hi) w d cs) (hl : lo' ≤ lo) : Rep (Frs lo' hi) w d cs :=
  Rep.mono (fun _ k => ⟨⟨Nat.le_trans hl k.1, k.2⟩, rfl⟩) _ _ h
theorem Jm {ok : Nat → Prop} {w : World} {v : Value} {ds : List D} (h : Rep ok w (.sq ds) [v]) : ∃ a c, v = .slice a ds.length c := by
  simp only [Rep] at h
  obtain ⟨a, c, e, _⟩ := h
  exact ⟨a, c, by simpa using e⟩
theorem JV {ok : Nat → Prop} {w : World} : YX ok w (([] : List Fld).map fldD) ([] : List (List Value)).flatten := by simp [YX]
theorem Xz {ok : Nat → Prop} {w : World} {f : Fld} {fs : List Fld} {c : List Value} {cs : List (List Value)} (h : Rep ok w (fldD f) c) (hl : YX ok w (fs.map fldD) cs.flatten) : YX ok w ((f :: fs).map fldD) (c :: cs).flatten := by
  simp only [List.map_cons, List.flatten_cons, YX]
  exact ⟨_, _, rfl, h, hl⟩
theorem rep_fldS {ok : Nat → Prop} {w : World} {a b c d e f g : Int} {sub : List Fld} {v : Value} (h : Rep ok w (.sq (sub.map fldD)) [v]) : Rep ok w (fldD (.mk a b c d e f g sub)) [.int .i64 a, .int .i64 b, .int .i64 c, .int .i64 d, .int .i64 e, .int .i64 f, .int .i64 g, v] := by
  have h2 : Rep ok w (.sq (fldDs sub)) [v] := by rw [fldDs_map]; exact h
  simp only [fldD, Rep, YX] at h2 ⊢
  exact ⟨[_], _, rfl, rfl, [_], _, rfl, rfl, [_], _, rfl, rfl, [_], _, rfl, rfl, [_], _, rfl, rfl, [_], _, rfl, rfl, [_], _, rfl, rfl, [_], _, rfl, h2, rfl⟩
section
variable {P : Program} {ops : Array Oper} {Q : Exit → Act → World → Prop} {N : Nat} {rest : List Oper} {L : Sl} {w : World} {d : Nat} {ty : TypeId} {pos : String} {aft : Array Edge}
/-- 'err != nil', where err is nil. -/
theorem wl_ifNeNil {x : Operand} {t u : TypeId} (hx : ev L x = some .nilIface) (ht : (match P.underlying t with | some (.interface _) => true | _ => false) = true) (hd : Nat.blt d N = true) (h : WL rest P ops Q N ((d, .bool false) :: L) w) :
    WL (⟨some d, .binOp .neq t x (.const .nilIface) u, ty, pos, aft, none⟩ :: rest) P ops Q N L w := by
  intro a k
  split at ht
  · rename_i ms hu
    refine YR (o := ⟨some d, .binOp .neq t x (.const .nilIface) u, ty, pos, aft, none⟩) (v := .bool false) (w' := w) rfl ?_ (h _ (k.put _ hd))
    simp only [execOp, k.eval hx, XG]
    have h : ∀ d : Nat, (Op.equalIn (d + 1) t .nilIface .nilIface).run P w = .ok true w := fun d => by
      simp [Op.equalIn, run_underlying hu]
    simp only [eqGuard, binOp]
    simp [Op.equal, Op.maxDepth, h 9999]
  · cases ht
end
/-- What is owned can be read. -/
theorem own_src {w : World} {B u8 x0 : Nat} {d : Value} {s : List UInt8} (h : Own w B u8 d s) (hl : s.length ≤ srcLim) (hx : x0 < w.heap.size) : ∃ sb, sb < w.heap.size ∧ (sb = x0 ∨ B ≤ sb) ∧ SrcAt w sb d s := by
  obtain ⟨hxl, ⟨rfl, h0⟩ | ⟨g, cap, cur, rfl, hBg, hheap, hle, hcap, hcs, htake⟩⟩ := id h
  · exact ⟨x0, hx, .inl rfl, hl, .inl ⟨rfl, List.length_eq_zero_iff.1 h0⟩⟩
  · refine ⟨g, (Array.getElem?_eq_some_iff.1 hheap).1, .inr hBg, hl, .inr ⟨0, cap, rfl, hle, cur, _, _, hheap, ?_, ?_⟩⟩
    · rw [YV]; omega
    · intro i v hv
      rw [Nat.zero_add]
      rw [← htake, List.getElem?_take] at hv
      split at hv
      · simpa using hv
      · cases hv
theorem chg_below {S : Nat → Prop} {B : Nat} {w w' : World} (h : Chg S w w') (hS : ∀ j, j < B → ¬ S j) (hB : B ≤ w.heap.size) : Below B w w' := ⟨h.os, h.tape, h.output, h.size, fun k hk => h.block k (by omega) (hS k hk)⟩
theorem lits_head {ok : Nat → Prop} {w : World} {v : Value} {ds : List D} {cs : List Value} (h : YX ok w (.lit v :: ds) cs) : cs[0]? = some v := by
  simp only [YX, Rep] at h
  obtain ⟨c1, c2, rfl, rfl, _⟩ := h
  rfl
theorem be2_ver (n : Nat) (h : n < 32768) : IntKind.i16.wrap (n : Int) = (n : Int) := by
  simp only [IntKind.wrap, IntKind.bits, IntKind.signed]
  simp
  omega
end Go.Proofs.YtmihblfjhoblmaaGreatDoor

/- Methods through interfaces, interface values, octets of a text, an append in place. Over any program. -/
namespace Go.Proofs.YtmihblfjhoblmaaGreatDoor
open Go Go.RowKit

section
variable {P : Program} {ops : Array Oper} {Q : Exit → Act → World → Prop} {N : Nat} {rest : List Oper} {L : Sl} {w : World} {d : Nat} {ty : TypeId} {pos : String} {aft : Array Edge}
/-- Which function a method's name comes to at a value. -/
def Meth (P : Program) (t : TypeId) (v : Value) (name : String) (f : FuncId) (r : Value) : Prop := ∀ w : World, (method (P.types.size + Made.depth) t v name).run P w = .ok (f, r) w
theorem Uu {x : Operand} {t : TypeId} {v r : Value} {name : String} {f : FuncId} {args : List Operand} {vs : List Value} {ats : Array TypeId} (hx : ev L x = some (.iface t v)) (hm : Meth P t v name f r) (ha : evs L args = some vs) (hf : Uq P f = true) (hd : Nat.blt d N = true)
    (hc : Calls P f (r :: vs).toArray w fun e w' => ∃ v', e = .returned v' ∧ WL rest P ops Q N ((d, v') :: L) w') :
    WL (⟨some d, .call ⟨.invoke x name, args.toArray, ats⟩, ty, pos, aft, none⟩ :: rest) P ops Q N L w := by
  intro a k
  refine wpList_plain rfl (fun K hK => ?_)
  unfold Oper.wp
  have hargs : args.toArray.map a.eval = vs.toArray := by rw [List.map_toArray, k.evals ha]
  have hr : (execOp a.eval ⟨some d, .call ⟨.invoke x name, args.toArray, ats⟩, ty, pos, aft, none⟩).run P w = .ok (.enter f (r :: vs).toArray) w := by
    unfold Uq at hf
    cases hfn : P.funcs[f]? with
    | none => simp [hfn] at hf
    | some fn =>
      simp [hfn] at hf
      have h2 : fn.body ≠ none := by intro e; simp [e] at hf
      have h3 := hf.1
      have e1 : (#[Value.iface t v] ++ vs.toArray)[0]? = some (.iface t v) := by simp
      have e2 : (#[Value.iface t v] ++ vs.toArray).extract 1 (#[Value.iface t v] ++ vs.toArray).size = vs.toArray := by simp
      have e3 : #[r] ++ vs.toArray = (r :: vs).toArray := by simp
      simp only [execOp, resolve, k.eval hx, hargs, Sem.run_bind, Sem.run_pure, Result.andThen_ok, invoke, e1, callMethod, run_program, hm w, callFunc, hfn, e2, e3]
      simp [h3, h2]
  rw [hr]
  refine hc.mono (fun e w' he => ?_)
  obtain ⟨v', rfl, hv⟩ := he
  exact hK _ _ (hv _ (k.put v' hd))
def noIface (P : Program) (t : TypeId) : Bool := match P.underlying t with | some (.interface _) => false | some _ => true | none => false
theorem Ym0 {x : Operand} {t : TypeId} {v : Value} (hx : ev L x = some v) (hu : noIface P t = true) (hd : Nat.blt d N = true) (h : WL rest P ops Q N ((d, .iface t v) :: L) w) :
    WL (⟨some d, .makeInterface t x, ty, pos, aft, none⟩ :: rest) P ops Q N L w := by
  intro a k
  refine YR (o := ⟨some d, .makeInterface t x, ty, pos, aft, none⟩) (v := .iface t v) (w' := w) rfl ?_ (h _ (k.put _ hd))
  unfold noIface at hu
  cases hh : P.underlying t with
  | none => rw [hh] at hu; cases hu
  | some u =>
    rw [hh] at hu
    cases u <;> first | (cases hu; done) | simp [execOp, Instr.makeInterface, run_underlying hh, k.eval hx]
def strBytes (P : Program) (s t e : TypeId) : Bool := (match P.underlying s with | some .string => true | _ => false) && (match P.underlying t with | some (.slice e') => Nat.beq e' e | _ => false) && (match P.underlying e with | some (.int .u8) => true | _ => false)
/-- Octets of a text. -/
theorem does_strB {a : Act} {dd : Option Nat} {g : Option (Nat × Bool)} {x : Operand} {s t e : TypeId} {str : ByteArray} {R : Value → World → Prop} (k : Kn N a L) (hx : ev L x = some (.string str)) (hT : strBytes P s t e = true)
    (h : ∀ v w', Xn w' v (Yd3 str) → w.grownBy w' none → R v w') : Does P ⟨dd, .convert s t x, ty, pos, aft, g⟩ a w R := by
  unfold strBytes at hT
  simp only [Bool.and_eq_true] at hT
  obtain ⟨⟨h1, h2⟩, h3⟩ := hT
  split at h1
  · rename_i hs
    split at h2
    · rename_i e' ht
      have := Ys h2; subst this
      split at h3
      · rename_i he
        have hr := Go.Lib.run_convert_string_bytes (P := P) w s t e' str hs ht he
        refine Yc3 (v := .slice (some ⟨w.heap.size, 0, none⟩) str.size (grownCap w str.size 0 e')) (w' := Go.Lib.bytesWorld w e' str) ?_ (h _ _ ?_ ?_)
        · simp only [execOp, k.eval hx, Sem.run_bind, hr, Result.andThen_ok, Sem.run_pure]
        · refine .inr ⟨w.heap.size, 0, grownCap w str.size 0 e', by rw [Vg], Go.Lib.bytesCells w e' str, e', _, Go.Lib.bytesWorld_at_new w e' str, ?_, fun i v hv => ?_⟩
          · simp only [YV, Vg, Go.Lib.bytesCells, Array.size_append, Array.size_map, Nat.zero_add]
            have : str.data.size = str.size := rfl
            omega
          · have hlt : i < str.data.size := by
              have := (List.getElem?_eq_some_iff.1 hv).1
              rw [YV, Vg] at this; exact this
            simp only [bv, Yd3, List.getElem?_map] at hv
            simp only [Go.Lib.bytesCells, Nat.zero_add]
            rw [Array.getElem?_append_left (by rw [Array.size_map]; exact hlt), Array.getElem?_map]
            rw [← hv]
            simp
        · exact ⟨rfl, rfl, rfl, by rw [Go.Lib.bytesWorld_size]; omega, fun j hj _ => Go.Lib.bytesWorld_at_old w e' str j hj⟩
      · cases h3
    · cases h2
  · cases h1
/-- An append of few octets to the head of a row that has room. -/
theorem wl_appAt {t u8 g cap : Nat} {s x : Operand} {xv : Value} {ys : List UInt8} {cur : Array Value}
    (hT : Vy P t u8 = true) (hs : ev L s = some (.slice (some ⟨g, 0, none⟩) 0 cap)) (hx : ev L x = some xv) (hd : Nat.blt d N = true) (hy : Xn w xv ys) (hne : ys ≠ []) (hb : w.heap[g]? = some (.cells cur u8 (0, 0))) (hcap : ys.length ≤ cap) (hcur : ys.length ≤ cur.size)
    (h : ∀ w', w'.heap[g]? = some (.cells (bv ys ++ cur.toList.drop ys.length).toArray u8 (0, 0)) → w.grownBy w' (some g) → w'.heap.size = w.heap.size → WL rest P ops Q N ((d, .slice (some ⟨g, 0, none⟩) ys.length cap) :: L) w') :
    WL (⟨some d, .call ⟨.builtin .append, #[s, x], #[t, t]⟩, ty, pos, aft, none⟩ :: rest) P ops Q N L w := by
  intro a k
  obtain ⟨hu, i, z, hi, hs1, hb1, hz, hzc⟩ := XN hT
  rcases hy with ⟨a0, c, rfl, rfl⟩ | ⟨b, off, c, rfl, hc⟩
  · exact absurd rfl hne
  · have hr := run_append_room (P := P) w t ty u8 i hu hi g 0 cap cur hb ⟨b, off, none⟩ ys.length c (bv ys) (by rw [YV, hs1, Nat.mul_one]) (fun j v hv => by rw [YN _ _ rfl]; exact hc.cell hv) (bv_one ys) (by omega) (by rw [YV, Nat.zero_mul]; omega)
    simp only [Nat.zero_mul, List.take_zero, List.nil_append, Nat.zero_add, YV] at hr
    refine YR (o := ⟨some d, .call ⟨.builtin .append, #[s, x], #[t, t]⟩, ty, pos, aft, none⟩) (v := .slice (some ⟨g, 0, none⟩) ys.length cap) (w' := w.setRow g (bv ys ++ cur.toList.drop ys.length).toArray) rfl (by simp only [execOp, resolve, List.map_toArray, List.map_cons, List.map_nil, k.eval hs, k.eval hx, Sem.run_bind, Sem.run_pure, Result.andThen_ok, invoke, builtin, hr]) ?_
    exact h (w.setRow g (bv ys ++ cur.toList.drop ys.length).toArray) (setRow_heap w g cur _ u8 _ hb) ⟨rfl, rfl, rfl, by simp, fun k' _ hk => setRow_other w g k' _ (fun e' => hk (by rw [e']))⟩ (by simp [World.setRow]) _ (k.put _ hd)
theorem rn_slice0 {a : Act} {dd : Option Nat} {gd : Option (Nat × Bool)} {x : Operand} {t : TypeId} {b : Option Addr} {n c : Nat} (k : Kn N a L) (hx : ev L x = some (.slice b n c)) (ht : (YG P t).isSome = true) :
    (execOp a.eval ⟨dd, .slice t x none (some (.const (.int .i64 0))) none, ty, pos, aft, gd⟩).run P w = .ok (.value (.slice b 0 c)) w := by
  unfold YG at ht
  split at ht
  · rename_i e he
    cases hie : P.info? e with
    | none => simp [hie] at ht
    | some inf => cases b <;> simp [execOp, k.eval hx, XG, Instr.sliceAt, Instr.slice, run_underlying he, Instr.sliceBounds, Instr.sliceBound, asIntOf, sizeOf, typeInfo, hie, Addr.add]
  · cases ht
theorem Ym2 {a : Act} {dd : Option Nat} {gd : Option (Nat × Bool)} {x y : Operand} {t : TypeId} {b : Option Addr} {n c m : Nat} {kk : IntKind} (k : Kn N a L) (hx : ev L x = some (.slice b n c)) (hy : ev L y = some (.int kk (m : Int))) (ht : YG P t = some 1) (hm : m ≤ n) :
    (execOp a.eval ⟨dd, .slice t x (some y) none none, ty, pos, aft, gd⟩).run P w = .ok (.value (.slice (if c = m then b else b.map (·.add m)) (n - m) (c - m))) w := by
  unfold YG at ht
  split at ht
  · rename_i e he
    cases hie : P.info? e with
    | none => simp [hie] at ht
    | some inf =>
      simp only [hie, Option.map_some, Option.some.injEq] at ht
      simp only [execOp, k.eval hx, Option.map_some, Option.map_none, k.eval hy]
      simp [Instr.sliceAt, Instr.slice, run_underlying he, Instr.sliceBounds, Instr.sliceBound, asIntOf, sizeOf, typeInfo, hie, hm, ht]
  · cases ht
end
end Go.Proofs.YtmihblfjhoblmaaGreatDoor

/- Statements whose order Go leaves open, where those that act need not follow each other: what holds is said of what has acted, in whatever order. Over any program. -/
namespace Go.Proofs.YtmihblfjhoblmaaGreatDoor
open Go Go.RowKit

/-- Those that act have slots of their own, none of L's. -/
def apartC (ops : List Oper) (L : Sl) (ch : List Nat) : Bool :=
  (ch.all fun c => match XE ops c with | some d => (lk L d).isNone && (ch.all fun c' => Nat.beq c' c || XE ops c' != some d) | none => true)
theorem wc_po {P : Program} {Q : Exit → Act → World → Prop} {N : Nat} {L : Sl} {w : World} {id : Nat} {ops : List Oper} (fl : List (Nat × Value)) (ch : List Nat) (C : List (Nat × Value) → World → Prop)
    (hm : P.follows .mixedOrders = true) (hac : acyc ops = true) (hap : apart ops L fl ch = true) (hapc : apartC ops L ch = true) (hcv : covered ops fl ch = true)
    (hdisj : (fl.all fun p => !ch.contains p.1) = true) (hflt : (fl.all fun p => Nat.blt p.1 ops.length) = true) (hfnd : (fl.map (·.1)).Nodup) (hlt : (ch.all fun c => Nat.blt c ops.length) = true)
    (hdst : (ops.all fun o => match o.dst with | some d => Nat.blt d N | none => true) = true) (hgd : (ch.all fun c => gOk ops fl c) = true)
    (h0 : C [] w.drew)
    (hfl : ∀ p ∈ fl, ∀ dn w', C dn w' → ∀ a, Kn N a (flL ops (fun j => (Xh ops p.1).contains j) fl ++ L) → Yb6 P ops p.1 p.2 a w')
    (hch : ∀ c ∈ ch, ∀ dn w', C dn w' → (∀ j ∈ Xh ops c, ch.contains j = true → ∃ v, (j, v) ∈ dn) → ∀ a, Kn N a (flL ops (fun j => (Xh ops c).contains j) fl ++ L) →
      (∀ j v d, (j, v) ∈ dn → XE ops j = some d → gt a d = v) → ∃ o, ops[c]? = some o ∧ Does P o a w' fun v w'' => C ((c, v) :: dn) w'')
    (hend : ∀ dn w', C dn w' → (∀ c ∈ ch, ∃ v, (c, v) ∈ dn) → ∀ a, Kn N a (flL ops (fun _ => true) fl ++ L) → (∀ j v d, (j, v) ∈ dn → XE ops j = some d → gt a d = v) → Q .normal a w') : WC (.region id ops.toArray true) P Q N L w := by
  intro a0 k0
  refine wp_region_any hm ?_
  have main : ∀ fuel (l : Array Bool) (a : Act) (w' : World), l.size = ops.length → unl l = fuel →
      (∃ dn, (∀ j v, (j, v) ∈ dn → l.getD j false = true ∧ j ∈ ch) ∧ (∀ c ∈ ch, l.getD c false = true → ∃ v, (c, v) ∈ dn) ∧ C dn w' ∧ Kn N a L ∧ (∀ j v d, (j, v) ∈ dn → XE ops j = some d → gt a d = v) ∧
        (∀ p ∈ fl, l.getD p.1 false = true → ∀ d, XE ops p.1 = some d → gt a d = p.2)) → wpAny P .any ops.toArray Q fuel l a w' := by
    intro fuel
    induction fuel with
    | zero =>
      rintro l a w' hsz hu ⟨dn, hdl, hld, hC, hK, hD, hF⟩
      have hall : ∀ i, i < ops.length → l.getD i false = true := fun i hi => unl_zero hu (by rw [hsz]; exact hi)
      refine ⟨?_, hend dn w' hC (fun c hc => hld c hc (hall c (Nat.le_of_ble_eq_true (List.all_eq_true.1 hlt c hc)))) a (by simpa using hK.mix (A := []) (JC fl (fun p hp _ d hd => hF p hp (hall _ (Nat.le_of_ble_eq_true (List.all_eq_true.1 hflt p hp))) d hd))) hD⟩
      cases hr : Region.ready .any ops.toArray l with
      | nil => rfl
      | cons i r =>
        exfalso
        obtain ⟨h1, h2, _⟩ := Jc (ops := ops.toArray) (l := l) (i := i) (by rw [hr]; simp)
        have h3 := hall i (by simpa using h1)
        simp only [Array.getD_eq_getD_getElem?] at h2 h3
        cases hy : l[i]? with
        | none => rw [hy] at h3; simp at h3
        | some b => rw [hy] at h2 h3; simp at h2 h3; rw [h3] at h2; cases h2
    | succ fuel ih =>
      rintro l a w' hsz hu ⟨dn, hdl, hld, hC, hK, hD, hF⟩
      refine ⟨fun hnil => ?_, fun i hi => ?_⟩
      · exfalso
        obtain ⟨i, hi, hli⟩ := unl_pos (l := l) (by omega)
        exact ready_ne (ops := ops.toArray) (by simpa using hac) (by simpa using hsz) ⟨i, by simp; omega, hli⟩ hnil
      · obtain ⟨h1, h2, h3⟩ := Jc hi
        simp only [List.size_toArray] at h1
        have h3' : ∀ j ∈ Xh ops i, l.getD j false = true := h3
        have hil : i < l.size := by omega
        have hu' : unl (l.setIfInBounds i true) = fuel := by have := unl_set hil h2; omega
        have hsz' : (l.setIfInBounds i true).size = ops.length := by simpa using hsz
        have ho : ops[i]? = some ops[i] := List.getElem?_eq_getElem h1
        have hoA : (ops.toArray)[i]? = some ops[i] := by simp
        have hdo : XE ops i = ops[i].dst := by simp [XE, ho]
        have hcov := List.all_eq_true.1 hcv i (List.mem_range.2 h1)
        have hni : l.getD i false = true → False := by
          intro h4
          simp only [Array.getD_eq_getD_getElem?, Array.getElem?_eq_getElem hil, Option.getD_some] at h2 h4
          rw [h4] at h2; cases h2
        have hup : ∀ j, l.getD j false = true → (l.setIfInBounds i true).getD j false = true := by
          intro j hj
          rw [XT hil]
          split
          · rfl
          · exact hj
        have hpreds : ∀ q ∈ flL ops (fun j => (Xh ops i).contains j) fl, gt a q.1 = q.2 :=
          JC fl (fun p hp hS d hd => hF p hp (h3' p.1 (by simpa using hS)) d hd)
        have hKm : Kn N a (flL ops (fun j => (Xh ops i).contains j) fl ++ L) := by simpa using hK.mix (A := []) hpreds
        by_cases hic : i ∈ ch
        · -- one that acts
          have hd : Does P ops[i] a w' fun v w'' => C ((i, v) :: dn) w'' := by
            obtain ⟨o, ho2, hd2⟩ := hch i hic dn w' hC (fun j hj hjc => hld j (by simpa using hjc) (h3' j hj)) a hKm hD
            rw [ho] at ho2; cases ho2; exact hd2
          have hwt := gOk_out (List.all_eq_true.1 hgd i hic) ho hpreds
          have hac2 := List.all_eq_true.1 hapc i hic
          unfold wpOp
          rw [hoA]
          simp only [hwt, if_true]
          refine .inl (hd _ _ (fun v w'' hv => ih _ _ _ hsz' hu' ⟨(i, v) :: dn, ?_, ?_, hv, ?_, ?_, ?_⟩))
          · intro j u hj
            rcases List.mem_cons.1 hj with h | h
            · cases h; exact ⟨by rw [XT hil, if_pos rfl], hic⟩
            · exact ⟨hup _ (hdl j u h).1, (hdl j u h).2⟩
          · intro c hc hl
            by_cases e : c = i
            · exact ⟨v, by rw [e]; simp⟩
            · rw [XT hil, if_neg e] at hl
              obtain ⟨u, hu2⟩ := hld c hc hl
              exact ⟨u, by simp [hu2]⟩
          · cases hdd : ops[i].dst with
            | none => exact hK
            | some d =>
              rw [hdo, hdd] at hac2
              simp only [Bool.and_eq_true] at hac2
              exact hK.putOther _ (by simpa using hac2.1)
          · intro j u d hj hd2
            cases hdd : ops[i].dst with
            | none =>
              rcases List.mem_cons.1 hj with h | h
              · cases h; rw [hdo, hdd] at hd2; cases hd2
              · exact hD j u d h hd2
            | some d' =>
              have hlt' : Nat.blt d' N = true := by
                have := List.all_eq_true.1 hdst ops[i] (by simp)
                rw [hdd] at this; exact this
              rcases List.mem_cons.1 hj with h | h
              · cases h
                rw [hdo, hdd] at hd2
                cases hd2
                exact Yw _ _ _ (by rw [hK.size]; exact Nat.le_of_ble_eq_true hlt')
              · rw [Yy]
                · exact hD j u d h hd2
                · rintro rfl
                  rw [hdo, hdd] at hac2
                  simp only [Bool.and_eq_true] at hac2
                  have h7 := List.all_eq_true.1 hac2.2 j (hdl j u h).2
                  rw [hd2] at h7
                  simp only [bne_self_eq_false, Bool.or_false] at h7
                  have := Ys h7
                  subst this
                  exact hni (hdl j u h).1
          · intro p hp hl d hd
            rw [XT hil] at hl
            have hne : p.1 ≠ i := by
              rintro rfl
              have := List.all_eq_true.1 hdisj p hp
              simp at this; exact this hic
            rw [if_neg hne] at hl
            have h5 := hF p hp hl d hd
            have h6 := List.all_eq_true.1 hap p hp
            rw [hd] at h6
            simp only [Bool.and_eq_true] at h6
            have h7 := List.all_eq_true.1 h6.1.2 i hic
            rw [hdo] at h7
            cases hdd : ops[i].dst with
            | none => exact h5
            | some d' =>
              rw [hdd] at h7
              rw [Yy]
              · exact h5
              · rintro rfl; simp at h7
        · -- one that only VQ
          have hif : ∃ p ∈ fl, p.1 = i := by
            rw [Bool.or_eq_true] at hcov
            rcases hcov with h | h
            · obtain ⟨p, hp, hb⟩ := List.any_eq_true.1 h
              exact ⟨p, hp, Ys hb⟩
            · exact absurd (by simpa using h) hic
          obtain ⟨p, hp, rfl⟩ := hif
          have hgv := hfl p hp dn w' hC a hKm
          have h6 := List.all_eq_true.1 hap p hp
          have hJ : ∀ a', (a' = a.put ops[p.1].dst p.2) → wpAny P .any ops.toArray Q fuel (l.setIfInBounds p.1 true) a' w' := by
            rintro a' rfl
            refine ih _ _ _ hsz' hu' ⟨dn, fun j u hj => ⟨hup _ (hdl j u hj).1, (hdl j u hj).2⟩, ?_, hC, ?_, ?_, ?_⟩
            · intro c hc hl
              rw [XT hil, if_neg (by rintro rfl; exact hic hc)] at hl
              exact hld c hc hl
            · cases hdd : ops[p.1].dst with
              | none => exact hK
              | some d =>
                rw [hdo, hdd] at h6
                simp only [Bool.and_eq_true] at h6
                exact hK.putOther _ (by simpa using h6.1.1)
            · intro j u d hj hd2
              cases hdd : ops[p.1].dst with
              | none => exact hD j u d hj hd2
              | some d' =>
                rw [Yy]
                · exact hD j u d hj hd2
                · rintro rfl
                  rw [hdo, hdd] at h6
                  simp only [Bool.and_eq_true] at h6
                  have h7 := List.all_eq_true.1 h6.1.2 j (hdl j u hj).2
                  rw [hd2] at h7; simp at h7
            · intro q hq hl d hd
              rw [XT hil] at hl
              by_cases e : q.1 = p.1
              · have hqp : q = p := by
                  have : ∀ (l : List (Nat × Value)), (l.map (·.1)).Nodup → ∀ x ∈ l, ∀ y ∈ l, x.1 = y.1 → x = y := by
                    intro l
                    induction l with
                    | nil => intro _ x hx; cases hx
                    | cons z l ih2 =>
                      intro hn x hx y hy he
                      simp only [List.map_cons, List.nodup_cons, List.mem_map] at hn
                      rcases List.mem_cons.1 hx with hx1 | hx1 <;> rcases List.mem_cons.1 hy with hy1 | hy1
                      · rw [hx1, hy1]
                      · exact absurd ⟨_, hy1, by rw [← he, hx1]⟩ hn.1
                      · exact absurd ⟨_, hx1, by rw [he, hy1]⟩ hn.1
                      · exact ih2 hn.2 x hx1 y hy1 he
                  exact this fl hfnd q hq p hp e
                subst hqp
                rw [hdo] at hd
                rw [hd, Yw]
                have hlt' : Nat.blt d N = true := by
                  have := List.all_eq_true.1 hdst ops[q.1] (by simp)
                  rw [hd] at this; exact this
                rw [hK.size]; exact Nat.le_of_ble_eq_true hlt'
              · rw [if_neg e] at hl
                have h5 := hF q hq hl d hd
                cases hdd : ops[p.1].dst with
                | none => exact h5
                | some d' =>
                  rw [Yy]
                  · exact h5
                  · rintro rfl
                    rw [hdo, hdd] at h6
                    simp only [Bool.and_eq_true] at h6
                    have h7 := List.all_eq_true.1 h6.2 q hq
                    simp only [Bool.or_eq_true] at h7
                    rcases h7 with h7 | h7
                    · exact e (Ys h7)
                    · rw [hd] at h7; simp at h7
          unfold wpOp
          rw [hoA]
          simp only []
          simp only [Yb6, ho] at hgv
          rcases hgv with ⟨hwt, hr⟩ | ⟨hwt, hv⟩
          · rw [if_pos hwt]
            refine .inl ?_
            unfold Oper.wp
            rw [hr]
            exact hJ _ rfl
          · rw [if_neg (by rw [hwt]; simp)]
            exact hJ _ (by rw [hv])
  refine main _ _ _ _ (by simp) ?_ ⟨[], by simp, ?_, h0, k0, by simp, ?_⟩
  · simp [unl, List.countP_replicate]
  · intro c hc hl
    exfalso
    simp only [Array.getD_eq_getD_getElem?, Array.getElem?_replicate] at hl
    split at hl <;> simp at hl
  · intro p hp hl
    exfalso
    simp only [Array.getD_eq_getD_getElem?, Array.getElem?_replicate] at hl
    split at hl <;> simp at hl
end Go.Proofs.YtmihblfjhoblmaaGreatDoor

/- The head of a request: the reference's, and the formatter's (text printed by tools/frm.py). -/
namespace Go.Proofs.YtmihblfjhoblmaaGreatDoor.Frm
open Go Go.RowKit

/-- A request behind its length. -/
def Vt (key ver number : Int) (has : Bool) (id : List UInt8) (flex : Bool) (body : List UInt8) : List UInt8 :=
  be 2 key ++ be 2 ver ++ be 4 number ++ (bif has then be 2 id.length ++ id else be 2 (-1)) ++ (bif flex then [0] else []) ++ body
def Uj (key ver number : Int) (has : Bool) (id : List UInt8) (flex : Bool) (body : List UInt8) : List UInt8 := be 4 (Vt key ver number has id flex body).length ++ Vt key ver number has id flex body
theorem frame_len (key ver number : Int) (has : Bool) (id : List UInt8) (flex : Bool) (body : List UInt8) : (Vt key ver number has id flex body).length ≤ 20 + id.length + body.length := by
  unfold Vt
  cases has <;> cases flex <;> simp only [cond_true, cond_false, List.length_append, be_length, List.length_cons, List.length_nil] <;> omega
section
set_option maxRecDepth 100000
set_option maxHeartbeats 2000000
theorem fn_frame (key ver number : Int) (has flex : Bool) (hnum : IntKind.i32.wrap number = number) (iv sv : Value) (id body : List UInt8) (w : World) (hi : Xn w iv id) (hs : Xn w sv body) (hl : 1000 + id.length + body.length ≤ lim) :
    Fn 12 [.int .i64 key, .int .i64 ver, .int .i32 number, .bool has, iv, .bool flex, sv] w fun v w' => Own w' w.heap.size 5 v (Uj key ver number has id flex body) := by
  obtain ⟨ia, ic, hiv⟩ := hi.shape
  subst hiv
  obtain ⟨sa, sc, hsv⟩ := hs.shape
  subst hsv
  refine enter Tryz.func12 rfl Tryz.ntmps12 rfl ?_
  cases has <;> cases flex
  · repeat first|(with_reducible first|apply Yk|apply Yd|apply Ym|apply Yj|apply Yh|apply Yi|apply Yn|apply Yl|apply Ye|apply Yg|apply Yr|apply Yc|apply Yf|apply Yb|apply Ya)|((with_reducible apply ws);exact rfl;exact rfl)|((with_reducible apply Yo);exact rfl;exact rfl;exact rfl)|((with_reducible apply Yq);exact rfl;exact rfl;exact rfl;exact rfl)|((with_reducible apply Yp);exact rfl;exact rfl;exact rfl)
    refine Yu rfl (by kernel_rfl) rfl ((YT key 2 (by omega) w).mono ?_)
    rintro e w1 ⟨d1, rfl, hq1, ho1⟩
    refine ⟨_, rfl, ?_⟩
    have hb1 : Below w.heap.size w w1 := hq1.mono (by omega)
    have hw1 := (Below.refl _ _).trans hb1
    have hz1 := hw1.size
    repeat first|(with_reducible first|apply Yk|apply Yd|apply Ym|apply Yj|apply Yh|apply Yi|apply Yn|apply Yl|apply Ye|apply Yg|apply Yr|apply Yc|apply Yf|apply Yb|apply Ya)|((with_reducible apply ws);exact rfl;exact rfl)|((with_reducible apply Yo);exact rfl;exact rfl;exact rfl)|((with_reducible apply Yq);exact rfl;exact rfl;exact rfl;exact rfl)|((with_reducible apply Yp);exact rfl;exact rfl;exact rfl)
    refine Yu rfl (by kernel_rfl) rfl ((YT ver 2 (by omega) w1).mono ?_)
    rintro e w2 ⟨d2, rfl, hq2, ho2⟩
    refine ⟨_, rfl, ?_⟩
    have hb2 : Below w.heap.size w1 w2 := hq2.mono (by omega)
    have hw2 := hw1.trans hb2
    have hz2 := hw2.size
    replace ho1 := ho1.below hq2
    refine YK tb_bytes tb_bytes rfl rfl rfl ho2.bytes ho1 (by omega) (by simp only [List.length_append, be_length, List.length_cons, List.length_nil]; omega) (fun d3 w3 ho3 hg3 => ?_)
    have hb3 : Below w.heap.size w2 w3 := hg3.below (by omega) ho1.ge
    have hw3 := hw2.trans hb3
    have hz3 := hw3.size
    repeat first|(with_reducible first|apply Yk|apply Yd|apply Ym|apply Yj|apply Yh|apply Yi|apply Yn|apply Yl|apply Ye|apply Yg|apply Yr|apply Yc|apply Yf|apply Yb|apply Ya)|((with_reducible apply ws);exact rfl;exact rfl)|((with_reducible apply Yo);exact rfl;exact rfl;exact rfl)|((with_reducible apply Yq);exact rfl;exact rfl;exact rfl;exact rfl)|((with_reducible apply Yp);exact rfl;exact rfl;exact rfl)
    refine YB .i64 rfl ti_i32 ti_l64 rfl (r := number) (by rw [IntKind.wrap_i32] at hnum; rw [IntKind.wrap_i64]; omega) ?_
    refine Yu rfl (by kernel_rfl) rfl ((YT number 4 (by omega) w3).mono ?_)
    rintro e w4 ⟨d4, rfl, hq4, ho4⟩
    refine ⟨_, rfl, ?_⟩
    have hb4 : Below w.heap.size w3 w4 := hq4.mono (by omega)
    have hw4 := hw3.trans hb4
    have hz4 := hw4.size
    replace ho3 := ho3.below hq4
    refine YK tb_bytes tb_bytes rfl rfl rfl ho4.bytes ho3 (by omega) (by simp only [List.length_append, be_length, List.length_cons, List.length_nil]; omega) (fun d5 w5 ho5 hg5 => ?_)
    have hb5 : Below w.heap.size w4 w5 := hg5.below (by omega) ho3.ge
    have hw5 := hw4.trans hb5
    have hz5 := hw5.size
    repeat first|(with_reducible first|apply Yk|apply Yd|apply Ym|apply Yj|apply Yh|apply Yi|apply Yn|apply Yl|apply Ye|apply Yg|apply Yr|apply Yc|apply Yf|apply Yb|apply Ya)|((with_reducible apply ws);exact rfl;exact rfl)|((with_reducible apply Yo);exact rfl;exact rfl;exact rfl)|((with_reducible apply Yq);exact rfl;exact rfl;exact rfl;exact rfl)|((with_reducible apply Yp);exact rfl;exact rfl;exact rfl)
    refine YE rfl rfl ?_
    repeat first|(with_reducible first|apply Yk|apply Yd|apply Ym|apply Yj|apply Yh|apply Yi|apply Yn|apply Yl|apply Ye|apply Yg|apply Yr|apply Yc|apply Yf|apply Yb|apply Ya)|((with_reducible apply ws);exact rfl;exact rfl)|((with_reducible apply Yo);exact rfl;exact rfl;exact rfl)|((with_reducible apply Yq);exact rfl;exact rfl;exact rfl;exact rfl)|((with_reducible apply Yp);exact rfl;exact rfl;exact rfl)
    refine Yu rfl (by kernel_rfl) rfl ((YT (-1) 2 (by omega) w5).mono ?_)
    rintro e w6 ⟨d6, rfl, hq6, ho6⟩
    refine ⟨_, rfl, ?_⟩
    have hb6 : Below w.heap.size w5 w6 := hq6.mono (by omega)
    have hw6 := hw5.trans hb6
    have hz6 := hw6.size
    replace ho5 := ho5.below hq6
    refine YK tb_bytes tb_bytes rfl rfl rfl ho6.bytes ho5 (by omega) (by simp only [List.length_append, be_length, List.length_cons, List.length_nil]; omega) (fun d7 w7 ho7 hg7 => ?_)
    have hb7 : Below w.heap.size w6 w7 := hg7.below (by omega) ho5.ge
    have hw7 := hw6.trans hb7
    have hz7 := hw7.size
    repeat first|(with_reducible first|apply Yk|apply Yd|apply Ym|apply Yj|apply Yh|apply Yi|apply Yn|apply Yl|apply Ye|apply Yg|apply Yr|apply Yc|apply Yf|apply Yb|apply Ya)|((with_reducible apply ws);exact rfl;exact rfl)|((with_reducible apply Yo);exact rfl;exact rfl;exact rfl)|((with_reducible apply Yq);exact rfl;exact rfl;exact rfl;exact rfl)|((with_reducible apply Yp);exact rfl;exact rfl;exact rfl)
    refine YE rfl rfl ?_
    repeat first|(with_reducible first|apply Yk|apply Yd|apply Ym|apply Yj|apply Yh|apply Yi|apply Yn|apply Yl|apply Ye|apply Yg|apply Yr|apply Yc|apply Yf|apply Yb|apply Ya)|((with_reducible apply ws);exact rfl;exact rfl)|((with_reducible apply Yo);exact rfl;exact rfl;exact rfl)|((with_reducible apply Yq);exact rfl;exact rfl;exact rfl;exact rfl)|((with_reducible apply Yp);exact rfl;exact rfl;exact rfl)
    refine YK tb_bytes tb_bytes rfl rfl rfl (hs.below hw7) ho7 (by omega) (by simp only [List.length_append, be_length, List.length_cons, List.length_nil]; omega) (fun d8 w8 ho8 hg8 => ?_)
    have hb8 : Below w.heap.size w7 w8 := hg8.below (by omega) ho7.ge
    have hw8 := hw7.trans hb8
    have hz8 := hw8.size
    obtain ⟨a9, c9, rfl⟩ := ho8.shape
    repeat first|(with_reducible first|apply Yk|apply Yd|apply Ym|apply Yj|apply Yh|apply Yi|apply Yn|apply Yl|apply Ye|apply Yg|apply Yr|apply Yc|apply Yf|apply Yb|apply Ya)|((with_reducible apply ws);exact rfl;exact rfl)|((with_reducible apply Yo);exact rfl;exact rfl;exact rfl)|((with_reducible apply Yq);exact rfl;exact rfl;exact rfl;exact rfl)|((with_reducible apply Yp);exact rfl;exact rfl;exact rfl)
    refine Yu rfl (by kernel_rfl) rfl ((YT _ 4 (by omega) w8).mono ?_)
    rintro e w9 ⟨d9, rfl, hq9, ho9⟩
    refine ⟨_, rfl, ?_⟩
    have hb9 : Below w.heap.size w8 w9 := hq9.mono (by omega)
    have hw9 := hw8.trans hb9
    have hz9 := hw9.size
    replace ho8 := ho8.below hq9
    repeat first|(with_reducible first|apply Yk|apply Yd|apply Ym|apply Yj|apply Yh|apply Yi|apply Yn|apply Yl|apply Ye|apply Yg|apply Yr|apply Yc|apply Yf|apply Yb|apply Ya)|((with_reducible apply ws);exact rfl;exact rfl)|((with_reducible apply Yo);exact rfl;exact rfl;exact rfl)|((with_reducible apply Yq);exact rfl;exact rfl;exact rfl;exact rfl)|((with_reducible apply Yp);exact rfl;exact rfl;exact rfl)
    refine YK tb_bytes tb_bytes rfl rfl rfl ho8.bytes (ho9.mono (by omega)) (by omega) (by simp only [List.length_append, be_length, List.length_cons, List.length_nil]; omega) (fun d10 w10 ho10 hg10 => ?_)
    have hb10 : Below w.heap.size w9 w10 := hg10.below (by omega) (ho9.mono (by omega)).ge
    have hw10 := hw9.trans hb10
    have hz10 := hw10.size
    repeat first|(with_reducible first|apply Yk|apply Yd|apply Ym|apply Yj|apply Yh|apply Yi|apply Yn|apply Yl|apply Ye|apply Yg|apply Yr|apply Yc|apply Yf|apply Yb|apply Ya)|((with_reducible apply ws);exact rfl;exact rfl)|((with_reducible apply Yo);exact rfl;exact rfl;exact rfl)|((with_reducible apply Yq);exact rfl;exact rfl;exact rfl;exact rfl)|((with_reducible apply Yp);exact rfl;exact rfl;exact rfl)
    refine Yt rfl rfl ⟨_, rfl, hw10, ?_⟩
    simpa only [Uj, Vt, cond_true, cond_false, List.append_assoc, List.append_nil, List.nil_append] using ho10
  · repeat first|(with_reducible first|apply Yk|apply Yd|apply Ym|apply Yj|apply Yh|apply Yi|apply Yn|apply Yl|apply Ye|apply Yg|apply Yr|apply Yc|apply Yf|apply Yb|apply Ya)|((with_reducible apply ws);exact rfl;exact rfl)|((with_reducible apply Yo);exact rfl;exact rfl;exact rfl)|((with_reducible apply Yq);exact rfl;exact rfl;exact rfl;exact rfl)|((with_reducible apply Yp);exact rfl;exact rfl;exact rfl)
    refine Yu rfl (by kernel_rfl) rfl ((YT key 2 (by omega) w).mono ?_)
    rintro e w1 ⟨d1, rfl, hq1, ho1⟩
    refine ⟨_, rfl, ?_⟩
    have hb1 : Below w.heap.size w w1 := hq1.mono (by omega)
    have hw1 := (Below.refl _ _).trans hb1
    have hz1 := hw1.size
    repeat first|(with_reducible first|apply Yk|apply Yd|apply Ym|apply Yj|apply Yh|apply Yi|apply Yn|apply Yl|apply Ye|apply Yg|apply Yr|apply Yc|apply Yf|apply Yb|apply Ya)|((with_reducible apply ws);exact rfl;exact rfl)|((with_reducible apply Yo);exact rfl;exact rfl;exact rfl)|((with_reducible apply Yq);exact rfl;exact rfl;exact rfl;exact rfl)|((with_reducible apply Yp);exact rfl;exact rfl;exact rfl)
    refine Yu rfl (by kernel_rfl) rfl ((YT ver 2 (by omega) w1).mono ?_)
    rintro e w2 ⟨d2, rfl, hq2, ho2⟩
    refine ⟨_, rfl, ?_⟩
    have hb2 : Below w.heap.size w1 w2 := hq2.mono (by omega)
    have hw2 := hw1.trans hb2
    have hz2 := hw2.size
    replace ho1 := ho1.below hq2
    refine YK tb_bytes tb_bytes rfl rfl rfl ho2.bytes ho1 (by omega) (by simp only [List.length_append, be_length, List.length_cons, List.length_nil]; omega) (fun d3 w3 ho3 hg3 => ?_)
    have hb3 : Below w.heap.size w2 w3 := hg3.below (by omega) ho1.ge
    have hw3 := hw2.trans hb3
    have hz3 := hw3.size
    repeat first|(with_reducible first|apply Yk|apply Yd|apply Ym|apply Yj|apply Yh|apply Yi|apply Yn|apply Yl|apply Ye|apply Yg|apply Yr|apply Yc|apply Yf|apply Yb|apply Ya)|((with_reducible apply ws);exact rfl;exact rfl)|((with_reducible apply Yo);exact rfl;exact rfl;exact rfl)|((with_reducible apply Yq);exact rfl;exact rfl;exact rfl;exact rfl)|((with_reducible apply Yp);exact rfl;exact rfl;exact rfl)
    refine YB .i64 rfl ti_i32 ti_l64 rfl (r := number) (by rw [IntKind.wrap_i32] at hnum; rw [IntKind.wrap_i64]; omega) ?_
    refine Yu rfl (by kernel_rfl) rfl ((YT number 4 (by omega) w3).mono ?_)
    rintro e w4 ⟨d4, rfl, hq4, ho4⟩
    refine ⟨_, rfl, ?_⟩
    have hb4 : Below w.heap.size w3 w4 := hq4.mono (by omega)
    have hw4 := hw3.trans hb4
    have hz4 := hw4.size
    replace ho3 := ho3.below hq4
    refine YK tb_bytes tb_bytes rfl rfl rfl ho4.bytes ho3 (by omega) (by simp only [List.length_append, be_length, List.length_cons, List.length_nil]; omega) (fun d5 w5 ho5 hg5 => ?_)
    have hb5 : Below w.heap.size w4 w5 := hg5.below (by omega) ho3.ge
    have hw5 := hw4.trans hb5
    have hz5 := hw5.size
    repeat first|(with_reducible first|apply Yk|apply Yd|apply Ym|apply Yj|apply Yh|apply Yi|apply Yn|apply Yl|apply Ye|apply Yg|apply Yr|apply Yc|apply Yf|apply Yb|apply Ya)|((with_reducible apply ws);exact rfl;exact rfl)|((with_reducible apply Yo);exact rfl;exact rfl;exact rfl)|((with_reducible apply Yq);exact rfl;exact rfl;exact rfl;exact rfl)|((with_reducible apply Yp);exact rfl;exact rfl;exact rfl)
    refine YE rfl rfl ?_
    repeat first|(with_reducible first|apply Yk|apply Yd|apply Ym|apply Yj|apply Yh|apply Yi|apply Yn|apply Yl|apply Ye|apply Yg|apply Yr|apply Yc|apply Yf|apply Yb|apply Ya)|((with_reducible apply ws);exact rfl;exact rfl)|((with_reducible apply Yo);exact rfl;exact rfl;exact rfl)|((with_reducible apply Yq);exact rfl;exact rfl;exact rfl;exact rfl)|((with_reducible apply Yp);exact rfl;exact rfl;exact rfl)
    refine Yu rfl (by kernel_rfl) rfl ((YT (-1) 2 (by omega) w5).mono ?_)
    rintro e w6 ⟨d6, rfl, hq6, ho6⟩
    refine ⟨_, rfl, ?_⟩
    have hb6 : Below w.heap.size w5 w6 := hq6.mono (by omega)
    have hw6 := hw5.trans hb6
    have hz6 := hw6.size
    replace ho5 := ho5.below hq6
    refine YK tb_bytes tb_bytes rfl rfl rfl ho6.bytes ho5 (by omega) (by simp only [List.length_append, be_length, List.length_cons, List.length_nil]; omega) (fun d7 w7 ho7 hg7 => ?_)
    have hb7 : Below w.heap.size w6 w7 := hg7.below (by omega) ho5.ge
    have hw7 := hw6.trans hb7
    have hz7 := hw7.size
    repeat first|(with_reducible first|apply Yk|apply Yd|apply Ym|apply Yj|apply Yh|apply Yi|apply Yn|apply Yl|apply Ye|apply Yg|apply Yr|apply Yc|apply Yf|apply Yb|apply Ya)|((with_reducible apply ws);exact rfl;exact rfl)|((with_reducible apply Yo);exact rfl;exact rfl;exact rfl)|((with_reducible apply Yq);exact rfl;exact rfl;exact rfl;exact rfl)|((with_reducible apply Yp);exact rfl;exact rfl;exact rfl)
    refine Yz rfl rfl ?_
    repeat first|(with_reducible first|apply Yk|apply Yd|apply Ym|apply Yj|apply Yh|apply Yi|apply Yn|apply Yl|apply Ye|apply Yg|apply Yr|apply Yc|apply Yf|apply Yb|apply Ya)|((with_reducible apply ws);exact rfl;exact rfl)|((with_reducible apply Yo);exact rfl;exact rfl;exact rfl)|((with_reducible apply Yq);exact rfl;exact rfl;exact rfl;exact rfl)|((with_reducible apply Yp);exact rfl;exact rfl;exact rfl)
    refine Xq tb_bytes rfl (ys := [0]) rfl rfl rfl rfl rfl rfl ho7 (by omega) (by simp only [List.length_append, be_length, List.length_cons, List.length_nil]; omega) (fun d8 w8 ho8 hg8 => ?_)
    have hb8 : Below w.heap.size w7 w8 := hg8.below (by omega) ho7.ge
    have hw8 := hw7.trans hb8
    have hz8 := hw8.size
    repeat first|(with_reducible first|apply Yk|apply Yd|apply Ym|apply Yj|apply Yh|apply Yi|apply Yn|apply Yl|apply Ye|apply Yg|apply Yr|apply Yc|apply Yf|apply Yb|apply Ya)|((with_reducible apply ws);exact rfl;exact rfl)|((with_reducible apply Yo);exact rfl;exact rfl;exact rfl)|((with_reducible apply Yq);exact rfl;exact rfl;exact rfl;exact rfl)|((with_reducible apply Yp);exact rfl;exact rfl;exact rfl)
    refine YK tb_bytes tb_bytes rfl rfl rfl (hs.below hw8) ho8 (by omega) (by simp only [List.length_append, be_length, List.length_cons, List.length_nil]; omega) (fun d9 w9 ho9 hg9 => ?_)
    have hb9 : Below w.heap.size w8 w9 := hg9.below (by omega) ho8.ge
    have hw9 := hw8.trans hb9
    have hz9 := hw9.size
    obtain ⟨a9, c9, rfl⟩ := ho9.shape
    repeat first|(with_reducible first|apply Yk|apply Yd|apply Ym|apply Yj|apply Yh|apply Yi|apply Yn|apply Yl|apply Ye|apply Yg|apply Yr|apply Yc|apply Yf|apply Yb|apply Ya)|((with_reducible apply ws);exact rfl;exact rfl)|((with_reducible apply Yo);exact rfl;exact rfl;exact rfl)|((with_reducible apply Yq);exact rfl;exact rfl;exact rfl;exact rfl)|((with_reducible apply Yp);exact rfl;exact rfl;exact rfl)
    refine Yu rfl (by kernel_rfl) rfl ((YT _ 4 (by omega) w9).mono ?_)
    rintro e w10 ⟨d10, rfl, hq10, ho10⟩
    refine ⟨_, rfl, ?_⟩
    have hb10 : Below w.heap.size w9 w10 := hq10.mono (by omega)
    have hw10 := hw9.trans hb10
    have hz10 := hw10.size
    replace ho9 := ho9.below hq10
    repeat first|(with_reducible first|apply Yk|apply Yd|apply Ym|apply Yj|apply Yh|apply Yi|apply Yn|apply Yl|apply Ye|apply Yg|apply Yr|apply Yc|apply Yf|apply Yb|apply Ya)|((with_reducible apply ws);exact rfl;exact rfl)|((with_reducible apply Yo);exact rfl;exact rfl;exact rfl)|((with_reducible apply Yq);exact rfl;exact rfl;exact rfl;exact rfl)|((with_reducible apply Yp);exact rfl;exact rfl;exact rfl)
    refine YK tb_bytes tb_bytes rfl rfl rfl ho9.bytes (ho10.mono (by omega)) (by omega) (by simp only [List.length_append, be_length, List.length_cons, List.length_nil]; omega) (fun d11 w11 ho11 hg11 => ?_)
    have hb11 : Below w.heap.size w10 w11 := hg11.below (by omega) (ho10.mono (by omega)).ge
    have hw11 := hw10.trans hb11
    have hz11 := hw11.size
    repeat first|(with_reducible first|apply Yk|apply Yd|apply Ym|apply Yj|apply Yh|apply Yi|apply Yn|apply Yl|apply Ye|apply Yg|apply Yr|apply Yc|apply Yf|apply Yb|apply Ya)|((with_reducible apply ws);exact rfl;exact rfl)|((with_reducible apply Yo);exact rfl;exact rfl;exact rfl)|((with_reducible apply Yq);exact rfl;exact rfl;exact rfl;exact rfl)|((with_reducible apply Yp);exact rfl;exact rfl;exact rfl)
    refine Yt rfl rfl ⟨_, rfl, hw11, ?_⟩
    simpa only [Uj, Vt, cond_true, cond_false, List.append_assoc, List.append_nil, List.nil_append] using ho11
  · repeat first|(with_reducible first|apply Yk|apply Yd|apply Ym|apply Yj|apply Yh|apply Yi|apply Yn|apply Yl|apply Ye|apply Yg|apply Yr|apply Yc|apply Yf|apply Yb|apply Ya)|((with_reducible apply ws);exact rfl;exact rfl)|((with_reducible apply Yo);exact rfl;exact rfl;exact rfl)|((with_reducible apply Yq);exact rfl;exact rfl;exact rfl;exact rfl)|((with_reducible apply Yp);exact rfl;exact rfl;exact rfl)
    refine Yu rfl (by kernel_rfl) rfl ((YT key 2 (by omega) w).mono ?_)
    rintro e w1 ⟨d1, rfl, hq1, ho1⟩
    refine ⟨_, rfl, ?_⟩
    have hb1 : Below w.heap.size w w1 := hq1.mono (by omega)
    have hw1 := (Below.refl _ _).trans hb1
    have hz1 := hw1.size
    repeat first|(with_reducible first|apply Yk|apply Yd|apply Ym|apply Yj|apply Yh|apply Yi|apply Yn|apply Yl|apply Ye|apply Yg|apply Yr|apply Yc|apply Yf|apply Yb|apply Ya)|((with_reducible apply ws);exact rfl;exact rfl)|((with_reducible apply Yo);exact rfl;exact rfl;exact rfl)|((with_reducible apply Yq);exact rfl;exact rfl;exact rfl;exact rfl)|((with_reducible apply Yp);exact rfl;exact rfl;exact rfl)
    refine Yu rfl (by kernel_rfl) rfl ((YT ver 2 (by omega) w1).mono ?_)
    rintro e w2 ⟨d2, rfl, hq2, ho2⟩
    refine ⟨_, rfl, ?_⟩
    have hb2 : Below w.heap.size w1 w2 := hq2.mono (by omega)
    have hw2 := hw1.trans hb2
    have hz2 := hw2.size
    replace ho1 := ho1.below hq2
    refine YK tb_bytes tb_bytes rfl rfl rfl ho2.bytes ho1 (by omega) (by simp only [List.length_append, be_length, List.length_cons, List.length_nil]; omega) (fun d3 w3 ho3 hg3 => ?_)
    have hb3 : Below w.heap.size w2 w3 := hg3.below (by omega) ho1.ge
    have hw3 := hw2.trans hb3
    have hz3 := hw3.size
    repeat first|(with_reducible first|apply Yk|apply Yd|apply Ym|apply Yj|apply Yh|apply Yi|apply Yn|apply Yl|apply Ye|apply Yg|apply Yr|apply Yc|apply Yf|apply Yb|apply Ya)|((with_reducible apply ws);exact rfl;exact rfl)|((with_reducible apply Yo);exact rfl;exact rfl;exact rfl)|((with_reducible apply Yq);exact rfl;exact rfl;exact rfl;exact rfl)|((with_reducible apply Yp);exact rfl;exact rfl;exact rfl)
    refine YB .i64 rfl ti_i32 ti_l64 rfl (r := number) (by rw [IntKind.wrap_i32] at hnum; rw [IntKind.wrap_i64]; omega) ?_
    refine Yu rfl (by kernel_rfl) rfl ((YT number 4 (by omega) w3).mono ?_)
    rintro e w4 ⟨d4, rfl, hq4, ho4⟩
    refine ⟨_, rfl, ?_⟩
    have hb4 : Below w.heap.size w3 w4 := hq4.mono (by omega)
    have hw4 := hw3.trans hb4
    have hz4 := hw4.size
    replace ho3 := ho3.below hq4
    refine YK tb_bytes tb_bytes rfl rfl rfl ho4.bytes ho3 (by omega) (by simp only [List.length_append, be_length, List.length_cons, List.length_nil]; omega) (fun d5 w5 ho5 hg5 => ?_)
    have hb5 : Below w.heap.size w4 w5 := hg5.below (by omega) ho3.ge
    have hw5 := hw4.trans hb5
    have hz5 := hw5.size
    repeat first|(with_reducible first|apply Yk|apply Yd|apply Ym|apply Yj|apply Yh|apply Yi|apply Yn|apply Yl|apply Ye|apply Yg|apply Yr|apply Yc|apply Yf|apply Yb|apply Ya)|((with_reducible apply ws);exact rfl;exact rfl)|((with_reducible apply Yo);exact rfl;exact rfl;exact rfl)|((with_reducible apply Yq);exact rfl;exact rfl;exact rfl;exact rfl)|((with_reducible apply Yp);exact rfl;exact rfl;exact rfl)
    refine Yz rfl rfl ?_
    repeat first|(with_reducible first|apply Yk|apply Yd|apply Ym|apply Yj|apply Yh|apply Yi|apply Yn|apply Yl|apply Ye|apply Yg|apply Yr|apply Yc|apply Yf|apply Yb|apply Ya)|((with_reducible apply ws);exact rfl;exact rfl)|((with_reducible apply Yo);exact rfl;exact rfl;exact rfl)|((with_reducible apply Yq);exact rfl;exact rfl;exact rfl;exact rfl)|((with_reducible apply Yp);exact rfl;exact rfl;exact rfl)
    refine Yu rfl (by kernel_rfl) rfl ((YT (id.length : Int) 2 (by omega) w5).mono ?_)
    rintro e w6 ⟨d6, rfl, hq6, ho6⟩
    refine ⟨_, rfl, ?_⟩
    have hb6 : Below w.heap.size w5 w6 := hq6.mono (by omega)
    have hw6 := hw5.trans hb6
    have hz6 := hw6.size
    replace ho5 := ho5.below hq6
    refine YK tb_bytes tb_bytes rfl rfl rfl ho6.bytes ho5 (by omega) (by simp only [List.length_append, be_length, List.length_cons, List.length_nil]; omega) (fun d7 w7 ho7 hg7 => ?_)
    have hb7 : Below w.heap.size w6 w7 := hg7.below (by omega) ho5.ge
    have hw7 := hw6.trans hb7
    have hz7 := hw7.size
    repeat first|(with_reducible first|apply Yk|apply Yd|apply Ym|apply Yj|apply Yh|apply Yi|apply Yn|apply Yl|apply Ye|apply Yg|apply Yr|apply Yc|apply Yf|apply Yb|apply Ya)|((with_reducible apply ws);exact rfl;exact rfl)|((with_reducible apply Yo);exact rfl;exact rfl;exact rfl)|((with_reducible apply Yq);exact rfl;exact rfl;exact rfl;exact rfl)|((with_reducible apply Yp);exact rfl;exact rfl;exact rfl)
    refine YK tb_bytes tb_bytes rfl rfl rfl (hi.below hw7) ho7 (by omega) (by simp only [List.length_append, be_length, List.length_cons, List.length_nil]; omega) (fun d8 w8 ho8 hg8 => ?_)
    have hb8 : Below w.heap.size w7 w8 := hg8.below (by omega) ho7.ge
    have hw8 := hw7.trans hb8
    have hz8 := hw8.size
    repeat first|(with_reducible first|apply Yk|apply Yd|apply Ym|apply Yj|apply Yh|apply Yi|apply Yn|apply Yl|apply Ye|apply Yg|apply Yr|apply Yc|apply Yf|apply Yb|apply Ya)|((with_reducible apply ws);exact rfl;exact rfl)|((with_reducible apply Yo);exact rfl;exact rfl;exact rfl)|((with_reducible apply Yq);exact rfl;exact rfl;exact rfl;exact rfl)|((with_reducible apply Yp);exact rfl;exact rfl;exact rfl)
    refine YE rfl rfl ?_
    repeat first|(with_reducible first|apply Yk|apply Yd|apply Ym|apply Yj|apply Yh|apply Yi|apply Yn|apply Yl|apply Ye|apply Yg|apply Yr|apply Yc|apply Yf|apply Yb|apply Ya)|((with_reducible apply ws);exact rfl;exact rfl)|((with_reducible apply Yo);exact rfl;exact rfl;exact rfl)|((with_reducible apply Yq);exact rfl;exact rfl;exact rfl;exact rfl)|((with_reducible apply Yp);exact rfl;exact rfl;exact rfl)
    refine YK tb_bytes tb_bytes rfl rfl rfl (hs.below hw8) ho8 (by omega) (by simp only [List.length_append, be_length, List.length_cons, List.length_nil]; omega) (fun d9 w9 ho9 hg9 => ?_)
    have hb9 : Below w.heap.size w8 w9 := hg9.below (by omega) ho8.ge
    have hw9 := hw8.trans hb9
    have hz9 := hw9.size
    obtain ⟨a9, c9, rfl⟩ := ho9.shape
    repeat first|(with_reducible first|apply Yk|apply Yd|apply Ym|apply Yj|apply Yh|apply Yi|apply Yn|apply Yl|apply Ye|apply Yg|apply Yr|apply Yc|apply Yf|apply Yb|apply Ya)|((with_reducible apply ws);exact rfl;exact rfl)|((with_reducible apply Yo);exact rfl;exact rfl;exact rfl)|((with_reducible apply Yq);exact rfl;exact rfl;exact rfl;exact rfl)|((with_reducible apply Yp);exact rfl;exact rfl;exact rfl)
    refine Yu rfl (by kernel_rfl) rfl ((YT _ 4 (by omega) w9).mono ?_)
    rintro e w10 ⟨d10, rfl, hq10, ho10⟩
    refine ⟨_, rfl, ?_⟩
    have hb10 : Below w.heap.size w9 w10 := hq10.mono (by omega)
    have hw10 := hw9.trans hb10
    have hz10 := hw10.size
    replace ho9 := ho9.below hq10
    repeat first|(with_reducible first|apply Yk|apply Yd|apply Ym|apply Yj|apply Yh|apply Yi|apply Yn|apply Yl|apply Ye|apply Yg|apply Yr|apply Yc|apply Yf|apply Yb|apply Ya)|((with_reducible apply ws);exact rfl;exact rfl)|((with_reducible apply Yo);exact rfl;exact rfl;exact rfl)|((with_reducible apply Yq);exact rfl;exact rfl;exact rfl;exact rfl)|((with_reducible apply Yp);exact rfl;exact rfl;exact rfl)
    refine YK tb_bytes tb_bytes rfl rfl rfl ho9.bytes (ho10.mono (by omega)) (by omega) (by simp only [List.length_append, be_length, List.length_cons, List.length_nil]; omega) (fun d11 w11 ho11 hg11 => ?_)
    have hb11 : Below w.heap.size w10 w11 := hg11.below (by omega) (ho10.mono (by omega)).ge
    have hw11 := hw10.trans hb11
    have hz11 := hw11.size
    repeat first|(with_reducible first|apply Yk|apply Yd|apply Ym|apply Yj|apply Yh|apply Yi|apply Yn|apply Yl|apply Ye|apply Yg|apply Yr|apply Yc|apply Yf|apply Yb|apply Ya)|((with_reducible apply ws);exact rfl;exact rfl)|((with_reducible apply Yo);exact rfl;exact rfl;exact rfl)|((with_reducible apply Yq);exact rfl;exact rfl;exact rfl;exact rfl)|((with_reducible apply Yp);exact rfl;exact rfl;exact rfl)
    refine Yt rfl rfl ⟨_, rfl, hw11, ?_⟩
    simpa only [Uj, Vt, cond_true, cond_false, List.append_assoc, List.append_nil, List.nil_append] using ho11
  · repeat first|(with_reducible first|apply Yk|apply Yd|apply Ym|apply Yj|apply Yh|apply Yi|apply Yn|apply Yl|apply Ye|apply Yg|apply Yr|apply Yc|apply Yf|apply Yb|apply Ya)|((with_reducible apply ws);exact rfl;exact rfl)|((with_reducible apply Yo);exact rfl;exact rfl;exact rfl)|((with_reducible apply Yq);exact rfl;exact rfl;exact rfl;exact rfl)|((with_reducible apply Yp);exact rfl;exact rfl;exact rfl)
    refine Yu rfl (by kernel_rfl) rfl ((YT key 2 (by omega) w).mono ?_)
    rintro e w1 ⟨d1, rfl, hq1, ho1⟩
    refine ⟨_, rfl, ?_⟩
    have hb1 : Below w.heap.size w w1 := hq1.mono (by omega)
    have hw1 := (Below.refl _ _).trans hb1
    have hz1 := hw1.size
    repeat first|(with_reducible first|apply Yk|apply Yd|apply Ym|apply Yj|apply Yh|apply Yi|apply Yn|apply Yl|apply Ye|apply Yg|apply Yr|apply Yc|apply Yf|apply Yb|apply Ya)|((with_reducible apply ws);exact rfl;exact rfl)|((with_reducible apply Yo);exact rfl;exact rfl;exact rfl)|((with_reducible apply Yq);exact rfl;exact rfl;exact rfl;exact rfl)|((with_reducible apply Yp);exact rfl;exact rfl;exact rfl)
    refine Yu rfl (by kernel_rfl) rfl ((YT ver 2 (by omega) w1).mono ?_)
    rintro e w2 ⟨d2, rfl, hq2, ho2⟩
    refine ⟨_, rfl, ?_⟩
    have hb2 : Below w.heap.size w1 w2 := hq2.mono (by omega)
    have hw2 := hw1.trans hb2
    have hz2 := hw2.size
    replace ho1 := ho1.below hq2
    refine YK tb_bytes tb_bytes rfl rfl rfl ho2.bytes ho1 (by omega) (by simp only [List.length_append, be_length, List.length_cons, List.length_nil]; omega) (fun d3 w3 ho3 hg3 => ?_)
    have hb3 : Below w.heap.size w2 w3 := hg3.below (by omega) ho1.ge
    have hw3 := hw2.trans hb3
    have hz3 := hw3.size
    repeat first|(with_reducible first|apply Yk|apply Yd|apply Ym|apply Yj|apply Yh|apply Yi|apply Yn|apply Yl|apply Ye|apply Yg|apply Yr|apply Yc|apply Yf|apply Yb|apply Ya)|((with_reducible apply ws);exact rfl;exact rfl)|((with_reducible apply Yo);exact rfl;exact rfl;exact rfl)|((with_reducible apply Yq);exact rfl;exact rfl;exact rfl;exact rfl)|((with_reducible apply Yp);exact rfl;exact rfl;exact rfl)
    refine YB .i64 rfl ti_i32 ti_l64 rfl (r := number) (by rw [IntKind.wrap_i32] at hnum; rw [IntKind.wrap_i64]; omega) ?_
    refine Yu rfl (by kernel_rfl) rfl ((YT number 4 (by omega) w3).mono ?_)
    rintro e w4 ⟨d4, rfl, hq4, ho4⟩
    refine ⟨_, rfl, ?_⟩
    have hb4 : Below w.heap.size w3 w4 := hq4.mono (by omega)
    have hw4 := hw3.trans hb4
    have hz4 := hw4.size
    replace ho3 := ho3.below hq4
    refine YK tb_bytes tb_bytes rfl rfl rfl ho4.bytes ho3 (by omega) (by simp only [List.length_append, be_length, List.length_cons, List.length_nil]; omega) (fun d5 w5 ho5 hg5 => ?_)
    have hb5 : Below w.heap.size w4 w5 := hg5.below (by omega) ho3.ge
    have hw5 := hw4.trans hb5
    have hz5 := hw5.size
    repeat first|(with_reducible first|apply Yk|apply Yd|apply Ym|apply Yj|apply Yh|apply Yi|apply Yn|apply Yl|apply Ye|apply Yg|apply Yr|apply Yc|apply Yf|apply Yb|apply Ya)|((with_reducible apply ws);exact rfl;exact rfl)|((with_reducible apply Yo);exact rfl;exact rfl;exact rfl)|((with_reducible apply Yq);exact rfl;exact rfl;exact rfl;exact rfl)|((with_reducible apply Yp);exact rfl;exact rfl;exact rfl)
    refine Yz rfl rfl ?_
    repeat first|(with_reducible first|apply Yk|apply Yd|apply Ym|apply Yj|apply Yh|apply Yi|apply Yn|apply Yl|apply Ye|apply Yg|apply Yr|apply Yc|apply Yf|apply Yb|apply Ya)|((with_reducible apply ws);exact rfl;exact rfl)|((with_reducible apply Yo);exact rfl;exact rfl;exact rfl)|((with_reducible apply Yq);exact rfl;exact rfl;exact rfl;exact rfl)|((with_reducible apply Yp);exact rfl;exact rfl;exact rfl)
    refine Yu rfl (by kernel_rfl) rfl ((YT (id.length : Int) 2 (by omega) w5).mono ?_)
    rintro e w6 ⟨d6, rfl, hq6, ho6⟩
    refine ⟨_, rfl, ?_⟩
    have hb6 : Below w.heap.size w5 w6 := hq6.mono (by omega)
    have hw6 := hw5.trans hb6
    have hz6 := hw6.size
    replace ho5 := ho5.below hq6
    refine YK tb_bytes tb_bytes rfl rfl rfl ho6.bytes ho5 (by omega) (by simp only [List.length_append, be_length, List.length_cons, List.length_nil]; omega) (fun d7 w7 ho7 hg7 => ?_)
    have hb7 : Below w.heap.size w6 w7 := hg7.below (by omega) ho5.ge
    have hw7 := hw6.trans hb7
    have hz7 := hw7.size
    repeat first|(with_reducible first|apply Yk|apply Yd|apply Ym|apply Yj|apply Yh|apply Yi|apply Yn|apply Yl|apply Ye|apply Yg|apply Yr|apply Yc|apply Yf|apply Yb|apply Ya)|((with_reducible apply ws);exact rfl;exact rfl)|((with_reducible apply Yo);exact rfl;exact rfl;exact rfl)|((with_reducible apply Yq);exact rfl;exact rfl;exact rfl;exact rfl)|((with_reducible apply Yp);exact rfl;exact rfl;exact rfl)
    refine YK tb_bytes tb_bytes rfl rfl rfl (hi.below hw7) ho7 (by omega) (by simp only [List.length_append, be_length, List.length_cons, List.length_nil]; omega) (fun d8 w8 ho8 hg8 => ?_)
    have hb8 : Below w.heap.size w7 w8 := hg8.below (by omega) ho7.ge
    have hw8 := hw7.trans hb8
    have hz8 := hw8.size
    repeat first|(with_reducible first|apply Yk|apply Yd|apply Ym|apply Yj|apply Yh|apply Yi|apply Yn|apply Yl|apply Ye|apply Yg|apply Yr|apply Yc|apply Yf|apply Yb|apply Ya)|((with_reducible apply ws);exact rfl;exact rfl)|((with_reducible apply Yo);exact rfl;exact rfl;exact rfl)|((with_reducible apply Yq);exact rfl;exact rfl;exact rfl;exact rfl)|((with_reducible apply Yp);exact rfl;exact rfl;exact rfl)
    refine Yz rfl rfl ?_
    repeat first|(with_reducible first|apply Yk|apply Yd|apply Ym|apply Yj|apply Yh|apply Yi|apply Yn|apply Yl|apply Ye|apply Yg|apply Yr|apply Yc|apply Yf|apply Yb|apply Ya)|((with_reducible apply ws);exact rfl;exact rfl)|((with_reducible apply Yo);exact rfl;exact rfl;exact rfl)|((with_reducible apply Yq);exact rfl;exact rfl;exact rfl;exact rfl)|((with_reducible apply Yp);exact rfl;exact rfl;exact rfl)
    refine Xq tb_bytes rfl (ys := [0]) rfl rfl rfl rfl rfl rfl ho8 (by omega) (by simp only [List.length_append, be_length, List.length_cons, List.length_nil]; omega) (fun d9 w9 ho9 hg9 => ?_)
    have hb9 : Below w.heap.size w8 w9 := hg9.below (by omega) ho8.ge
    have hw9 := hw8.trans hb9
    have hz9 := hw9.size
    repeat first|(with_reducible first|apply Yk|apply Yd|apply Ym|apply Yj|apply Yh|apply Yi|apply Yn|apply Yl|apply Ye|apply Yg|apply Yr|apply Yc|apply Yf|apply Yb|apply Ya)|((with_reducible apply ws);exact rfl;exact rfl)|((with_reducible apply Yo);exact rfl;exact rfl;exact rfl)|((with_reducible apply Yq);exact rfl;exact rfl;exact rfl;exact rfl)|((with_reducible apply Yp);exact rfl;exact rfl;exact rfl)
    refine YK tb_bytes tb_bytes rfl rfl rfl (hs.below hw9) ho9 (by omega) (by simp only [List.length_append, be_length, List.length_cons, List.length_nil]; omega) (fun d10 w10 ho10 hg10 => ?_)
    have hb10 : Below w.heap.size w9 w10 := hg10.below (by omega) ho9.ge
    have hw10 := hw9.trans hb10
    have hz10 := hw10.size
    obtain ⟨a9, c9, rfl⟩ := ho10.shape
    repeat first|(with_reducible first|apply Yk|apply Yd|apply Ym|apply Yj|apply Yh|apply Yi|apply Yn|apply Yl|apply Ye|apply Yg|apply Yr|apply Yc|apply Yf|apply Yb|apply Ya)|((with_reducible apply ws);exact rfl;exact rfl)|((with_reducible apply Yo);exact rfl;exact rfl;exact rfl)|((with_reducible apply Yq);exact rfl;exact rfl;exact rfl;exact rfl)|((with_reducible apply Yp);exact rfl;exact rfl;exact rfl)
    refine Yu rfl (by kernel_rfl) rfl ((YT _ 4 (by omega) w10).mono ?_)
    rintro e w11 ⟨d11, rfl, hq11, ho11⟩
    refine ⟨_, rfl, ?_⟩
    have hb11 : Below w.heap.size w10 w11 := hq11.mono (by omega)
    have hw11 := hw10.trans hb11
    have hz11 := hw11.size
    replace ho10 := ho10.below hq11
    repeat first|(with_reducible first|apply Yk|apply Yd|apply Ym|apply Yj|apply Yh|apply Yi|apply Yn|apply Yl|apply Ye|apply Yg|apply Yr|apply Yc|apply Yf|apply Yb|apply Ya)|((with_reducible apply ws);exact rfl;exact rfl)|((with_reducible apply Yo);exact rfl;exact rfl;exact rfl)|((with_reducible apply Yq);exact rfl;exact rfl;exact rfl;exact rfl)|((with_reducible apply Yp);exact rfl;exact rfl;exact rfl)
    refine YK tb_bytes tb_bytes rfl rfl rfl ho10.bytes (ho11.mono (by omega)) (by omega) (by simp only [List.length_append, be_length, List.length_cons, List.length_nil]; omega) (fun d12 w12 ho12 hg12 => ?_)
    have hb12 : Below w.heap.size w11 w12 := hg12.below (by omega) (ho11.mono (by omega)).ge
    have hw12 := hw11.trans hb12
    have hz12 := hw12.size
    repeat first|(with_reducible first|apply Yk|apply Yd|apply Ym|apply Yj|apply Yh|apply Yi|apply Yn|apply Yl|apply Ye|apply Yg|apply Yr|apply Yc|apply Yf|apply Yb|apply Ya)|((with_reducible apply ws);exact rfl;exact rfl)|((with_reducible apply Yo);exact rfl;exact rfl;exact rfl)|((with_reducible apply Yq);exact rfl;exact rfl;exact rfl;exact rfl)|((with_reducible apply Yp);exact rfl;exact rfl;exact rfl)
    refine Yt rfl rfl ⟨_, rfl, hw12, ?_⟩
    simpa only [Uj, Vt, cond_true, cond_false, List.append_assoc, List.append_nil, List.nil_append] using ho12
theorem fn_fits4 (has : Bool) (id : ByteArray) (w : World) : Fn 4 [.agg #[.bool has, .string id]] w fun v _ => ∃ b : Bool, v = .bool b := by
  refine enter Tryz.func4 rfl Tryz.ntmps4 rfl ?_
  refine Yk (Yd (Xt (cs := [.bool has, .string id]) rfl rfl rfl (fun w1 hb1 hg1 hs1 => ?_)))
  repeat first|(with_reducible first|apply Yk|apply Yd|apply Ym|apply Yj|apply Yh|apply Yi|apply Yn|apply Yl|apply Ye|apply Yg|apply Yr|apply Yc|apply Yf|apply Yb|apply Ya)|((with_reducible apply ws);exact rfl;exact rfl)|((with_reducible apply Yo);exact rfl;exact rfl;exact rfl)|((with_reducible apply Yq);exact rfl;exact rfl;exact rfl;exact rfl)|((with_reducible apply Yp);exact rfl;exact rfl;exact rfl)
  refine XJ rfl (show YY Tryz.prog 23 1 = some 1 by kernel_rfl) rfl ?_
  refine Yv rfl to_str rfl hb1 rfl ?_
  refine Jx rfl ts_str rfl ?_
  repeat first|(with_reducible first|apply Yk|apply Yd|apply Ym|apply Yj|apply Yh|apply Yi|apply Yn|apply Yl|apply Ye|apply Yg|apply Yr|apply Yc|apply Yf|apply Yb|apply Ya)|((with_reducible apply ws);exact rfl;exact rfl)|((with_reducible apply Yo);exact rfl;exact rfl;exact rfl)|((with_reducible apply Yq);exact rfl;exact rfl;exact rfl;exact rfl)|((with_reducible apply Yp);exact rfl;exact rfl;exact rfl)
  have hw1 : Below w.heap.size w w1 := Yx hg1 (Nat.le_refl _) (by simp)
  by_cases h0 : (2147483647 : Int) < (id.size : Int)
  · rw [show decide ((2147483647 : Int) < (id.size : Int)) = true from decide_eq_true h0]
    refine Yz rfl rfl ?_
    repeat first|(with_reducible first|apply Yk|apply Yd|apply Ym|apply Yj|apply Yh|apply Yi|apply Yn|apply Yl|apply Ye|apply Yg|apply Yr|apply Yc|apply Yf|apply Yb|apply Ya)|((with_reducible apply ws);exact rfl;exact rfl)|((with_reducible apply Yo);exact rfl;exact rfl;exact rfl)|((with_reducible apply Yq);exact rfl;exact rfl;exact rfl;exact rfl)|((with_reducible apply Yp);exact rfl;exact rfl;exact rfl)
    exact Yt rfl rfl ⟨_, rfl, hw1, _, rfl⟩
  · rw [show decide ((2147483647 : Int) < (id.size : Int)) = false from decide_eq_false h0]
    refine YE rfl rfl ?_
    repeat first|(with_reducible first|apply Yk|apply Yd|apply Ym|apply Yj|apply Yh|apply Yi|apply Yn|apply Yl|apply Ye|apply Yg|apply Yr|apply Yc|apply Yf|apply Yb|apply Ya)|((with_reducible apply ws);exact rfl;exact rfl)|((with_reducible apply Yo);exact rfl;exact rfl;exact rfl)|((with_reducible apply Yq);exact rfl;exact rfl;exact rfl;exact rfl)|((with_reducible apply Yp);exact rfl;exact rfl;exact rfl)
    exact Yt rfl rfl ⟨_, rfl, hw1, _, rfl⟩
end
end Go.Proofs.YtmihblfjhoblmaaGreatDoor.Frm

/- The formatter of requests: options, and the octets of a request (text printed by tools/frm2.py). -/
namespace Go.Proofs.YtmihblfjhoblmaaGreatDoor.Frm
open Go Go.RowKit

/-- A formatter: its one field, and the text behind it. -/
def FmtOk (w : World) (fb : Nat) (cid : Option ByteArray) : Prop := match cid with
  | none => Box w fb [.pointer none] 116
  | some s => ∃ sb, Box w fb [.pointer (some ⟨sb, 0, none⟩)] 116 ∧ Box w sb [.string s] 9
def idOf (cid : Option ByteArray) : List UInt8 := match cid with | none => [] | some s => Yd3 s
section
set_option maxRecDepth 100000
set_option maxHeartbeats 2000000
theorem zv_fmt (w : World) : (zeroValue 116).run Tryz.prog w = .ok (.agg #[.pointer none]) w := by kernel_rfl
theorem fo_fmt : YY Tryz.prog 116 0 = some 0 := by kernel_rfl
theorem to_pstr : XS Tryz.prog 110 = true := by kernel_rfl
theorem fn_fmt0 (w : World) : Calls Tryz.prog 36 #[.slice none 0 0] w fun e w' => ∃ fb, e = .returned (.pointer (some ⟨fb, 0, none⟩)) ∧ FmtOk w' fb none ∧ Below w.heap.size w w' := by
  refine enter (vs := [.slice none 0 0]) Tryz.func36 rfl Tryz.ntmps36 rfl ?_
  repeat first|(with_reducible first|apply Yk|apply Yd|apply Ym|apply Yj|apply Yh|apply Yi|apply Yn|apply Yl|apply Ye|apply Yg|apply Yr|apply Yc|apply Yf|apply Yb|apply Ya)|((with_reducible apply ws);exact rfl;exact rfl)|((with_reducible apply Yo);exact rfl;exact rfl;exact rfl)|((with_reducible apply Yq);exact rfl;exact rfl;exact rfl;exact rfl)|((with_reducible apply Yp);exact rfl;exact rfl;exact rfl)
  refine Xu (cs := [.pointer none]) zv_fmt rfl rfl (fun w1 hb1 hg1 hs1 => ?_)
  repeat first|(with_reducible first|apply Yk|apply Yd|apply Ym|apply Yj|apply Yh|apply Yi|apply Yn|apply Yl|apply Ye|apply Yg|apply Yr|apply Yc|apply Yf|apply Yb|apply Ya)|((with_reducible apply ws);exact rfl;exact rfl)|((with_reducible apply Yo);exact rfl;exact rfl;exact rfl)|((with_reducible apply Yq);exact rfl;exact rfl;exact rfl;exact rfl)|((with_reducible apply Yp);exact rfl;exact rfl;exact rfl)
  refine wl_len rfl (by kernel_rfl) rfl ?_
  repeat first|(with_reducible first|apply Yk|apply Yd|apply Ym|apply Yj|apply Yh|apply Yi|apply Yn|apply Yl|apply Ye|apply Yg|apply Yr|apply Yc|apply Yf|apply Yb|apply Ya)|((with_reducible apply ws);exact rfl;exact rfl)|((with_reducible apply Yo);exact rfl;exact rfl;exact rfl)|((with_reducible apply Yq);exact rfl;exact rfl;exact rfl;exact rfl)|((with_reducible apply Yp);exact rfl;exact rfl;exact rfl)
  refine XH (α := Nat) (fun i => [(9, .int .i64 (i : Int)), (8, .int .i64 0), (3, .pointer (some ⟨w.heap.size, 0, none⟩))]) (fun i w' => i = 0 ∧ w' = w1) (fun i => 0) 0 ⟨rfl, rfl, rfl, trivial⟩ ⟨rfl, rfl⟩ ?_
  rintro i w2 ⟨rfl, rfl⟩
  repeat first|(with_reducible first|apply Yk|apply Yd|apply Ym|apply Yj|apply Yh|apply Yi|apply Yn|apply Yl|apply Ye|apply Yg|apply Yr|apply Yc|apply Yf|apply Yb|apply Ya)|((with_reducible apply ws);exact rfl;exact rfl)|((with_reducible apply Yo);exact rfl;exact rfl;exact rfl)|((with_reducible apply Yq);exact rfl;exact rfl;exact rfl;exact rfl)|((with_reducible apply Yp);exact rfl;exact rfl;exact rfl)
  refine YE rfl (by decide) ?_
  repeat first|(with_reducible first|apply Yk|apply Yd|apply Ym|apply Yj|apply Yh|apply Yi|apply Yn|apply Yl|apply Ye|apply Yg|apply Yr|apply Yc|apply Yf|apply Yb|apply Ya)|((with_reducible apply ws);exact rfl;exact rfl)|((with_reducible apply Yo);exact rfl;exact rfl;exact rfl)|((with_reducible apply Yq);exact rfl;exact rfl;exact rfl;exact rfl)|((with_reducible apply Yp);exact rfl;exact rfl;exact rfl)
  exact Yt rfl rfl ⟨_, rfl, hb1, Yx hg1 (Nat.le_refl _) (by simp)⟩
theorem fn_client (s : ByteArray) (w : World) : Calls Tryz.prog 37 #[.string s] w fun e w' => e = .returned (.iface 119 (.agg #[.func (.func 63) #[] #[.pointer (some ⟨w.heap.size, 0, none⟩)]])) ∧ Box w' w.heap.size [.string s] 9 ∧ Below w.heap.size w w' := by
  refine enter (vs := [.string s]) Tryz.func37 rfl Tryz.ntmps37 rfl ?_
  refine Yk (Yd (Xt (cs := [.string s]) rfl rfl rfl (fun w1 hb1 hg1 hs1 => ?_)))
  repeat first|(with_reducible first|apply Yk|apply Yd|apply Ym|apply Yj|apply Yh|apply Yi|apply Yn|apply Yl|apply Ye|apply Yg|apply Yr|apply Yc|apply Yf|apply Yb|apply Ya)|((with_reducible apply ws);exact rfl;exact rfl)|((with_reducible apply Yo);exact rfl;exact rfl;exact rfl)|((with_reducible apply Yq);exact rfl;exact rfl;exact rfl;exact rfl)|((with_reducible apply Yp);exact rfl;exact rfl;exact rfl)
  refine Jo (caps := [.tmp 1]) rfl rfl ?_
  refine XF rfl (cs := [.func (.func 63) #[] #[.pointer (some ⟨w.heap.size, 0, none⟩)]]) (by kernel_rfl) rfl ?_
  refine Ym0 rfl (by kernel_rfl) rfl ?_
  repeat first|(with_reducible first|apply Yk|apply Yd|apply Ym|apply Yj|apply Yh|apply Yi|apply Yn|apply Yl|apply Ye|apply Yg|apply Yr|apply Yc|apply Yf|apply Yb|apply Ya)|((with_reducible apply ws);exact rfl;exact rfl)|((with_reducible apply Yo);exact rfl;exact rfl;exact rfl)|((with_reducible apply Yq);exact rfl;exact rfl;exact rfl;exact rfl)|((with_reducible apply Yp);exact rfl;exact rfl;exact rfl)
  exact Yt rfl rfl ⟨rfl, hb1, Yx hg1 (Nat.le_refl _) (by simp)⟩
theorem fn_set1 (w : World) (fb sb : Nat) (v : Value) (hb : Box w fb [v] 116) : Calls Tryz.prog 63 #[.pointer (some ⟨fb, 0, none⟩), .pointer (some ⟨sb, 0, none⟩)] w fun e w' => e = .returned (.tuple #[]) ∧ Box w' fb [.pointer (some ⟨sb, 0, none⟩)] 116 ∧ w.grownBy w' (some fb) ∧ w'.heap.size = w.heap.size := by
  refine enter (vs := [.pointer (some ⟨fb, 0, none⟩), .pointer (some ⟨sb, 0, none⟩)]) Tryz.func63 rfl Tryz.ntmps63 rfl ?_
  repeat first|(with_reducible first|apply Yk|apply Yd|apply Ym|apply Yj|apply Yh|apply Yi|apply Yn|apply Yl|apply Ye|apply Yg|apply Yr|apply Yc|apply Yf|apply Yb|apply Ya)|((with_reducible apply ws);exact rfl;exact rfl)|((with_reducible apply Yo);exact rfl;exact rfl;exact rfl)|((with_reducible apply Yq);exact rfl;exact rfl;exact rfl;exact rfl)|((with_reducible apply Yp);exact rfl;exact rfl;exact rfl)
  refine XJ rfl fo_fmt rfl ?_
  refine YJ (i := 0) rfl rfl to_pstr rfl hb rfl (fun w1 hb1 hg1 hz1 => ?_)
  exact Ym (Jl rfl ⟨rfl, hb1, hg1, hz1⟩)
theorem fn_apply (w : World) (fb sb : Nat) (v : Value) (hb : Box w fb [v] 116) : Calls Tryz.prog 141 #[.agg #[.func (.func 63) #[] #[.pointer (some ⟨sb, 0, none⟩)]], .pointer (some ⟨fb, 0, none⟩)] w fun e w' => e = .returned (.tuple #[]) ∧ Box w' fb [.pointer (some ⟨sb, 0, none⟩)] 116 ∧ (∀ j, j < w.heap.size → j ≠ fb → w'.heap[j]? = w.heap[j]?) ∧ w.heap.size ≤ w'.heap.size ∧ w'.os = w.os ∧ w'.tape = w.tape ∧ w'.output = w.output := by
  refine enter (vs := [.agg #[.func (.func 63) #[] #[.pointer (some ⟨sb, 0, none⟩)]], .pointer (some ⟨fb, 0, none⟩)]) Tryz.func141 rfl Tryz.ntmps141 rfl ?_
  refine Yk (Yd (Xt (cs := [.func (.func 63) #[] #[.pointer (some ⟨sb, 0, none⟩)]]) rfl rfl rfl (fun w1 hb1 hg1 hs1 => ?_)))
  repeat first|(with_reducible first|apply Yk|apply Yd|apply Ym|apply Yj|apply Yh|apply Yi|apply Yn|apply Yl|apply Ye|apply Yg|apply Yr|apply Yc|apply Yf|apply Yb|apply Ya)|((with_reducible apply ws);exact rfl;exact rfl)|((with_reducible apply Yo);exact rfl;exact rfl;exact rfl)|((with_reducible apply Yq);exact rfl;exact rfl;exact rfl;exact rfl)|((with_reducible apply Yp);exact rfl;exact rfl;exact rfl)
  refine XJ rfl (show YY Tryz.prog 119 0 = some 0 by kernel_rfl) rfl ?_
  refine Yv (i := 0) rfl (by kernel_rfl) rfl hb1 rfl ?_
  repeat first|(with_reducible first|apply Yk|apply Yd|apply Ym|apply Yj|apply Yh|apply Yi|apply Yn|apply Yl|apply Ye|apply Yg|apply Yr|apply Yc|apply Yf|apply Yb|apply Ya)|((with_reducible apply ws);exact rfl;exact rfl)|((with_reducible apply Yo);exact rfl;exact rfl;exact rfl)|((with_reducible apply Yq);exact rfl;exact rfl;exact rfl;exact rfl)|((with_reducible apply Yp);exact rfl;exact rfl;exact rfl)
  have hbf := hb.kept hg1 (by simp)
  refine wl_callV (vs := [.pointer (some ⟨fb, 0, none⟩)]) (bs := [.pointer (some ⟨sb, 0, none⟩)]) (args := [.tmp 6]) rfl rfl (by kernel_rfl) rfl ((fn_set1 w1 fb sb v hbf).mono ?_)
  rintro e w2 ⟨rfl, hb2, hg2, hz2⟩
  refine ⟨_, rfl, ?_⟩
  exact Ym (Jl rfl ⟨rfl, hb2, fun j hj hne => (hg2.block j (by omega) (by simpa using hne)).trans (hg1.block j hj (by simp)), by omega, hg2.os.trans hg1.os, hg2.tape.trans hg1.tape, hg2.output.trans hg1.output⟩)
theorem fn_fmt1 (s : ByteArray) (w : World) (ob sb : Nat) (hob : Box w ob [.iface 119 (.agg #[.func (.func 63) #[] #[.pointer (some ⟨sb, 0, none⟩)]])] 83) (hsb : Box w sb [.string s] 9) :
    Calls Tryz.prog 36 #[.slice (some ⟨ob, 0, none⟩) 1 1] w fun e w' => ∃ fb, e = .returned (.pointer (some ⟨fb, 0, none⟩)) ∧ FmtOk w' fb (some s) ∧ Below w.heap.size w w' := by
  refine enter (vs := [.slice (some ⟨ob, 0, none⟩) 1 1]) Tryz.func36 rfl Tryz.ntmps36 rfl ?_
  repeat first|(with_reducible first|apply Yk|apply Yd|apply Ym|apply Yj|apply Yh|apply Yi|apply Yn|apply Yl|apply Ye|apply Yg|apply Yr|apply Yc|apply Yf|apply Yb|apply Ya)|((with_reducible apply ws);exact rfl;exact rfl)|((with_reducible apply Yo);exact rfl;exact rfl;exact rfl)|((with_reducible apply Yq);exact rfl;exact rfl;exact rfl;exact rfl)|((with_reducible apply Yp);exact rfl;exact rfl;exact rfl)
  refine Xu (cs := [.pointer none]) zv_fmt rfl rfl (fun w1 hb1 hg1 hs1 => ?_)
  have hw1 := Yx hg1 (Nat.le_refl _) (by simp)
  have lob := hob.lt
  have lsb := hsb.lt
  repeat first|(with_reducible first|apply Yk|apply Yd|apply Ym|apply Yj|apply Yh|apply Yi|apply Yn|apply Yl|apply Ye|apply Yg|apply Yr|apply Yc|apply Yf|apply Yb|apply Ya)|((with_reducible apply ws);exact rfl;exact rfl)|((with_reducible apply Yo);exact rfl;exact rfl;exact rfl)|((with_reducible apply Yq);exact rfl;exact rfl;exact rfl;exact rfl)|((with_reducible apply Yp);exact rfl;exact rfl;exact rfl)
  refine wl_len rfl (by kernel_rfl) rfl ?_
  repeat first|(with_reducible first|apply Yk|apply Yd|apply Ym|apply Yj|apply Yh|apply Yi|apply Yn|apply Yl|apply Ye|apply Yg|apply Yr|apply Yc|apply Yf|apply Yb|apply Ya)|((with_reducible apply ws);exact rfl;exact rfl)|((with_reducible apply Yo);exact rfl;exact rfl;exact rfl)|((with_reducible apply Yq);exact rfl;exact rfl;exact rfl;exact rfl)|((with_reducible apply Yp);exact rfl;exact rfl;exact rfl)
  refine XH (α := Nat) (fun i => [(9, .int .i64 (i : Int)), (8, .int .i64 1), (3, .pointer (some ⟨w.heap.size, 0, none⟩)), (7, .slice (some ⟨ob, 0, none⟩) 1 1)]) (fun i w' => i ≤ 1 ∧ Below w.heap.size w w' ∧ Box w' w.heap.size [if i = 0 then .pointer none else .pointer (some ⟨sb, 0, none⟩)] 116) (fun i => 1 - i) 0 ⟨rfl, rfl, rfl, rfl, trivial⟩ ⟨by omega, hw1, hb1⟩ ?_
  rintro i w2 ⟨hi, hw2, hb2⟩
  have hz2 := hw2.size
  repeat first|(with_reducible first|apply Yk|apply Yd|apply Ym|apply Yj|apply Yh|apply Yi|apply Yn|apply Yl|apply Ye|apply Yg|apply Yr|apply Yc|apply Yf|apply Yb|apply Ya)|((with_reducible apply ws);exact rfl;exact rfl)|((with_reducible apply Yo);exact rfl;exact rfl;exact rfl)|((with_reducible apply Yq);exact rfl;exact rfl;exact rfl;exact rfl)|((with_reducible apply Yp);exact rfl;exact rfl;exact rfl)
  by_cases h0 : i = 0
  · subst h0
    refine Yz rfl (by decide) ?_
    repeat first|(with_reducible first|apply Yk|apply Yd|apply Ym|apply Yj|apply Yh|apply Yi|apply Yn|apply Yl|apply Ye|apply Yg|apply Yr|apply Yc|apply Yf|apply Yb|apply Ya)|((with_reducible apply ws);exact rfl;exact rfl)|((with_reducible apply Yo);exact rfl;exact rfl;exact rfl)|((with_reducible apply Yq);exact rfl;exact rfl;exact rfl;exact rfl)|((with_reducible apply Yp);exact rfl;exact rfl;exact rfl)
    refine YD (i := 0) (sz := 1) rfl rfl (by kernel_rfl) rfl (by omega) ?_
    refine Xl rfl (by kernel_rfl) rfl ((hob.below hw2 lob).cell (i := 0) rfl) ?_
    repeat first|(with_reducible first|apply Yk|apply Yd|apply Ym|apply Yj|apply Yh|apply Yi|apply Yn|apply Yl|apply Ye|apply Yg|apply Yr|apply Yc|apply Yf|apply Yb|apply Ya)|((with_reducible apply ws);exact rfl;exact rfl)|((with_reducible apply Yo);exact rfl;exact rfl;exact rfl)|((with_reducible apply Yq);exact rfl;exact rfl;exact rfl;exact rfl)|((with_reducible apply Yp);exact rfl;exact rfl;exact rfl)
    refine Uu (f := 141) (r := .agg #[.func (.func 63) #[] #[.pointer (some ⟨sb, 0, none⟩)]]) (args := [.tmp 14]) (vs := [.pointer (some ⟨w.heap.size, 0, none⟩)]) rfl (fun w => by kernel_rfl) rfl (by kernel_rfl) rfl ((fn_apply w2 w.heap.size sb _ hb2).mono ?_)
    rintro e w3 ⟨rfl, hb3, hk3, hz3, ho3, ht3, hu3⟩
    refine ⟨_, rfl, ?_⟩
    repeat first|(with_reducible first|apply Yk|apply Yd|apply Ym|apply Yj|apply Yh|apply Yi|apply Yn|apply Yl|apply Ye|apply Yg|apply Yr|apply Yc|apply Yf|apply Yb|apply Ya)|((with_reducible apply ws);exact rfl;exact rfl)|((with_reducible apply Yo);exact rfl;exact rfl;exact rfl)|((with_reducible apply Yq);exact rfl;exact rfl;exact rfl;exact rfl)|((with_reducible apply Yp);exact rfl;exact rfl;exact rfl)
    refine Xm rfl rfl rfl (r := ((0 + 1 : Nat) : Int)) (by rw [IntKind.wrap_i64]; omega) ?_
    repeat first|(with_reducible first|apply Yk|apply Yd|apply Ym|apply Yj|apply Yh|apply Yi|apply Yn|apply Yl|apply Ye|apply Yg|apply Yr|apply Yc|apply Yf|apply Yb|apply Ya)|((with_reducible apply ws);exact rfl;exact rfl)|((with_reducible apply Yo);exact rfl;exact rfl;exact rfl)|((with_reducible apply Yq);exact rfl;exact rfl;exact rfl;exact rfl)|((with_reducible apply Yp);exact rfl;exact rfl;exact rfl)
    exact YU (0 + 1) ⟨rfl, rfl, rfl, rfl, trivial⟩ ⟨by omega, ⟨ho3.trans hw2.os, ht3.trans hw2.tape, hu3.trans hw2.output, by omega, fun j hj => (hk3 j (by omega) (by omega)).trans (hw2.block j hj)⟩, by simpa using hb3⟩ (by omega)
  · obtain rfl : i = 1 := by omega
    refine YE rfl (by decide) ?_
    repeat first|(with_reducible first|apply Yk|apply Yd|apply Ym|apply Yj|apply Yh|apply Yi|apply Yn|apply Yl|apply Ye|apply Yg|apply Yr|apply Yc|apply Yf|apply Yb|apply Ya)|((with_reducible apply ws);exact rfl;exact rfl)|((with_reducible apply Yo);exact rfl;exact rfl;exact rfl)|((with_reducible apply Yq);exact rfl;exact rfl;exact rfl;exact rfl)|((with_reducible apply Yp);exact rfl;exact rfl;exact rfl)
    exact Yt rfl rfl ⟨_, rfl, ⟨sb, by simpa using hb2, hsb.below hw2 lsb⟩, hw2⟩
/-- What the formatter asks of a request. -/
structure Req (T b : Nat) (key ver : Int) (flex : Bool) (wire : List UInt8) (w0 : World) : Prop where
  k : ∃ f, Meth Tryz.prog T (.pointer (some ⟨b, 0, none⟩)) "Key" f (.pointer (some ⟨b, 0, none⟩)) ∧ Uq Tryz.prog f = true ∧ ∀ w, Below w0.heap.size w0 w → Calls Tryz.prog f #[.pointer (some ⟨b, 0, none⟩)] w fun e w' => e = .returned (.int .i16 key) ∧ w' = w
  v : ∃ f, Meth Tryz.prog T (.pointer (some ⟨b, 0, none⟩)) "GetVersion" f (.pointer (some ⟨b, 0, none⟩)) ∧ Uq Tryz.prog f = true ∧ ∀ w, Below w0.heap.size w0 w → Calls Tryz.prog f #[.pointer (some ⟨b, 0, none⟩)] w fun e w' => e = .returned (.int .i16 ver) ∧ w' = w
  i : ∃ f, Meth Tryz.prog T (.pointer (some ⟨b, 0, none⟩)) "IsFlexible" f (.pointer (some ⟨b, 0, none⟩)) ∧ Uq Tryz.prog f = true ∧ ∀ w, Below w0.heap.size w0 w → Calls Tryz.prog f #[.pointer (some ⟨b, 0, none⟩)] w fun e w' => e = .returned (.bool flex) ∧ w' = w
  a : ∃ f, Meth Tryz.prog T (.pointer (some ⟨b, 0, none⟩)) "AppendTo" f (.pointer (some ⟨b, 0, none⟩)) ∧ Uq Tryz.prog f = true ∧ ∀ (w : World) (d : Value) (xs : List UInt8) (B : Nat), Below w0.heap.size w0 w → w0.heap.size ≤ B → Own w B 5 d xs → B ≤ w.heap.size → xs.length + wire.length ≤ lim →
    Calls Tryz.prog f #[.pointer (some ⟨b, 0, none⟩), d] w fun e w' => ∃ d', e = .returned d' ∧ Own w' B 5 d' (xs ++ wire) ∧ Grew w w' d d'
theorem fn_cid (w : World) (fb : Nat) (cid : Option ByteArray) (hf : FmtOk w fb cid) (hc : ∀ s, cid = some s → s.size ≤ 32767) : ∃ v, w.cell? ⟨fb, 0, none⟩ = some v ∧ fb < w.heap.size ∧ ∀ (w' : World) (d : Value) (xs : List UInt8) (B : Nat), Below w.heap.size w w' → Own w' B 5 d xs → B ≤ w'.heap.size → xs.length + 40000 ≤ lim →
    Calls Tryz.prog 66 #[d, v] w' fun e w'' => ∃ d', e = .returned d' ∧ Own w'' B 5 d' (xs ++ (bif cid.isSome then be 2 (idOf cid).length ++ idOf cid else be 2 (-1))) ∧ Grew w' w'' d d' := by
  cases cid with
  | none => exact ⟨_, Box.cell hf (i := 0) rfl, Box.lt hf, fun w' d xs B hb ho hB hl => appendNullableString_nil d w' B xs trivial ho hB (by simp only [be_length]; omega)⟩
  | some s =>
    obtain ⟨sb, h1, h2⟩ := hf
    have hs := hc s rfl
    refine ⟨_, h1.cell (i := 0) rfl, h1.lt, fun w' d xs B hb ho hB hl => ?_⟩
    have := Vf ⟨sb, 0, none⟩ s hs d w' B xs ((h2.below hb h2.lt).cell (i := 0) rfl) ho hB (by simp only [List.length_append, be_length, Vg]; omega)
    simpa only [Option.isSome_some, cond_true, idOf, Vg] using this
/-- The append of four octets in place. -/
theorem Jh (u : Int) (w : World) (g cap : Nat) (cur : Array Value) (hb : w.heap[g]? = some (.cells cur 5 (0, 0))) (hcap : 4 ≤ cap) (hcur : 4 ≤ cur.size) :
    Calls Tryz.prog 65 #[.slice (some ⟨g, 0, none⟩) 0 cap, .int .i32 u] w fun e w' => ∃ v, e = .returned v ∧ w'.heap[g]? = some (.cells (bv (be 4 u) ++ cur.toList.drop 4).toArray 5 (0, 0)) ∧ w.grownBy w' (some g) := by
  have hlt : g < w.heap.size := (Array.getElem?_eq_some_iff.1 hb).1
  refine enter (vs := [.slice (some ⟨g, 0, none⟩) 0 cap, .int .i32 u]) Tryz.func65 rfl Tryz.ntmps65 rfl ?_
  repeat first|(with_reducible first|apply Yk|apply Yd|apply Ym|apply Yj|apply Yh|apply Yi|apply Yn|apply Yl|apply Ye|apply Yg|apply Yr|apply Yc|apply Yf|apply Yb|apply Ya)|((with_reducible apply ws);exact rfl;exact rfl)|((with_reducible apply Yo);exact rfl;exact rfl;exact rfl)|((with_reducible apply Yq);exact rfl;exact rfl;exact rfl;exact rfl)|((with_reducible apply Yp);exact rfl;exact rfl;exact rfl)
  refine YB .u32 rfl ti_i32 ti_u32 rfl rfl ?_
  have hu : Calls Tryz.prog 74 #[.slice (some ⟨g, 0, none⟩) 0 cap, .int .u32 (IntKind.u32.wrap u)] w fun e w' => ∃ v, e = .returned v ∧ w'.heap[g]? = some (.cells (bv (be 4 u) ++ cur.toList.drop 4).toArray 5 (0, 0)) ∧ w.grownBy w' (some g) := by
    have hbe : be 4 (IntKind.u32.wrap u) = be 4 u := by rw [IntKind.wrap_u32]; exact be_mod 4 32 u (by omega)
    refine enter (vs := [.slice (some ⟨g, 0, none⟩) 0 cap, .int .u32 (IntKind.u32.wrap u)]) Tryz.func74 rfl Tryz.ntmps74 rfl ?_
    refine Yk (Yd (YA rfl rfl (Ym (Yj ?_))))
    refine Yk (Yd ?_)
    repeat (first
      | refine Xw rfl rfl ?_
      | refine UI rfl rfl rfl rfl ?_
      | refine YB .u8 rfl (by kernel_rfl) (by kernel_rfl) rfl rfl ?_)
    refine wl_lit (ys := be 4 (IntKind.u32.wrap u)) tb_bytes rfl (u32_bytes (IntKind.u32.wrap u)) rfl rfl rfl (fun w1 ho1 hw1 => ?_)
    refine wl_appAt tb_bytes rfl rfl rfl ho1.bytes (by simp [be]) ((hw1.block g hlt).trans hb) (by rw [be_length]; omega) (by rw [be_length]; omega) (fun w2 hb2 hg2 hz2 => ?_)
    refine YA rfl rfl (Ym (Yj ?_))
    rw [be_length, hbe] at hb2
    exact Yn (Yt rfl rfl ⟨_, rfl, hb2, ⟨hg2.os.trans hw1.os, hg2.tape.trans hw1.tape, hg2.output.trans hw1.output, Nat.le_trans hw1.size hg2.size, fun j hj hne => (hg2.block j (by have := hw1.size; omega) hne).trans (hw1.block j hj)⟩⟩)
  refine Yu rfl (by kernel_rfl) rfl (hu.mono ?_)
  rintro e w1 ⟨v, rfl, h1, h2⟩
  refine ⟨_, rfl, ?_⟩
  repeat first|(with_reducible first|apply Yk|apply Yd|apply Ym|apply Yj|apply Yh|apply Yi|apply Yn|apply Yl|apply Ye|apply Yg|apply Yr|apply Yc|apply Yf|apply Yb|apply Ya)|((with_reducible apply ws);exact rfl;exact rfl)|((with_reducible apply Yo);exact rfl;exact rfl;exact rfl)|((with_reducible apply Yq);exact rfl;exact rfl;exact rfl;exact rfl)|((with_reducible apply Yp);exact rfl;exact rfl;exact rfl)
  exact Yt rfl rfl ⟨_, rfl, h1, h2⟩
/-- The length put ahead. -/
theorem tail_w (w w9 : World) (d9 : Value) (bs : List UInt8) (hw9 : Below w.heap.size w w9) (ho9 : Own w9 w.heap.size 5 d9 ([0, 0, 0, 0] ++ bs)) : ∃ g cap cur, d9 = .slice (some ⟨g, 0, none⟩) (4 + bs.length) cap ∧ w9.heap[g]? = some (.cells cur 5 (0, 0)) ∧ 4 + bs.length ≤ cap ∧ 4 ≤ cur.size ∧ w.heap.size ≤ g ∧
    ∀ (w' : World) (u : Int), w'.heap[g]? = some (.cells (bv (be 4 u) ++ cur.toList.drop 4).toArray 5 (0, 0)) → w9.grownBy w' (some g) → Own w' w.heap.size 5 d9 (be 4 u ++ bs) ∧ Below w.heap.size w w' := by
  obtain ⟨hxl, ⟨he, h0⟩ | ⟨g, cap, cur, he, hBg, hheap, hle, hcap, hcs, htake⟩⟩ := ho9
  · exfalso
    simp at h0
  · have hlen : ([0, 0, 0, 0] ++ bs : List UInt8).length = 4 + bs.length := by simp; omega
    rw [hlen] at he hle htake
    have hc4 : 4 ≤ cur.size := by rw [hcs]; omega
    refine ⟨g, cap, cur, he, hheap, hle, hc4, hBg, fun w' u hb hg => ⟨?_, hw9.trans (Yx hg hw9.size (by intro q hq; simp at hq; omega))⟩⟩
    have hl2 : (be 4 u ++ bs).length = 4 + bs.length := by simp only [List.length_append, be_length]
    refine ⟨by rw [YV, Nat.mul_one], .inr ⟨g, cap, _, by rw [hl2]; exact he, hBg, hb, by rw [hl2]; exact hle, hcap, ?_, ?_⟩⟩
    · simp only [List.size_toArray, List.length_append, YV, be_length, List.length_drop, Array.length_toList]; omega
    · rw [hl2, Ug]
      have h4 : (bv (be 4 u)).length = 4 := by rw [YV, be_length]
      simp only [Nat.mul_one] at htake ⊢
      rw [List.take_append, h4, List.take_of_length_le (by rw [h4]; omega)]
      congr 1
      have h5 : bv ([0, 0, 0, 0] ++ bs) = bv [0, 0, 0, 0] ++ bv bs := Ug _ _
      rw [h5] at htake
      have h6 := congrArg (List.drop 4) htake
      rw [List.drop_take, show (4 + bs.length - 4) = bs.length from by omega, show List.drop 4 (bv [0, 0, 0, 0] ++ bv bs) = bv bs from rfl] at h6
      rw [show 4 + bs.length - 4 = bs.length from by omega]
      exact h6
theorem be_wrap32 (n : Int) : be 4 (IntKind.i32.wrap n) = be 4 n := by
  have h1 : IntKind.i32.wrap n % 4294967296 = n % 4294967296 := by rw [IntKind.wrap_i32]; omega
  have h2 := be_mod 4 32 (IntKind.i32.wrap n) (by omega)
  have h3 := be_mod 4 32 n (by omega)
  rw [← h2, ← h3]
  congr 1
theorem fn_apreq (T b : Nat) (key ver number : Int) (flex : Bool) (wire : List UInt8) (w : World) (fb : Nat) (cid : Option ByteArray) (R : Req T b key ver flex wire w) (h7 : key ≠ 7) (hf : FmtOk w fb cid) (hc : ∀ s, cid = some s → s.size ≤ 32767) (hl : 1000000 + wire.length ≤ lim) :
    Calls Tryz.prog 38 #[.pointer (some ⟨fb, 0, none⟩), .slice none 0 0, .iface T (.pointer (some ⟨b, 0, none⟩)), .int .i32 number] w fun e w' => ∃ d', e = .returned d' ∧ Own w' w.heap.size 5 d' (Uj key ver number cid.isSome (idOf cid) flex wire) ∧ Below w.heap.size w w' := by
  obtain ⟨fk, mk, ik, ck⟩ := R.k
  obtain ⟨fv, mv, iv, cv⟩ := R.v
  obtain ⟨fi, mi, ii, ci⟩ := R.i
  obtain ⟨fa, ma, ia, ca⟩ := R.a
  obtain ⟨sv, hsv, hfb, cs⟩ := fn_cid w fb cid hf hc
  have hns : (bif cid.isSome then be 2 (idOf cid).length ++ idOf cid else be 2 (-1)).length ≤ 32769 := by
    cases cid with
    | none => simp [be_length]
    | some s => have := hc s rfl; simp only [Option.isSome_some, cond_true, idOf, List.length_append, be_length, Vg]; omega
  have e7 : (key == 7) = false := by simpa using h7
  refine enter (vs := [.pointer (some ⟨fb, 0, none⟩), .slice none 0 0, .iface T (.pointer (some ⟨b, 0, none⟩)), .int .i32 number]) Tryz.func38 rfl Tryz.ntmps38 rfl ?_
  repeat first|(with_reducible first|apply Yk|apply Yd|apply Ym|apply Yj|apply Yh|apply Yi|apply Yn|apply Yl|apply Ye|apply Yg|apply Yr|apply Yc|apply Yf|apply Yb|apply Ya)|((with_reducible apply ws);exact rfl;exact rfl)|((with_reducible apply Yo);exact rfl;exact rfl;exact rfl)|((with_reducible apply Yq);exact rfl;exact rfl;exact rfl;exact rfl)|((with_reducible apply Yp);exact rfl;exact rfl;exact rfl)
  refine Xq tb_bytes rfl (ys := [0, 0, 0, 0]) rfl rfl rfl rfl rfl rfl (Own.nil w w.heap.size 5) (Nat.le_refl _) (by simp [lim]) (fun d1 w1 ho1 hg1 => ?_)
  have hw1 : Below w.heap.size w w1 := hg1.below (Nat.le_refl _) (by simp [Value.ownBlock])
  have hz1 := hw1.size
  rw [List.nil_append] at ho1
  repeat first|(with_reducible first|apply Yk|apply Yd|apply Ym|apply Yj|apply Yh|apply Yi|apply Yn|apply Yl|apply Ye|apply Yg|apply Yr|apply Yc|apply Yf|apply Yb|apply Ya)|((with_reducible apply ws);exact rfl;exact rfl)|((with_reducible apply Yo);exact rfl;exact rfl;exact rfl)|((with_reducible apply Yq);exact rfl;exact rfl;exact rfl;exact rfl)|((with_reducible apply Yp);exact rfl;exact rfl;exact rfl)
  refine Uu (args := []) (vs := []) rfl mk rfl ik rfl ((ck w1 hw1).mono ?_)
  rintro e w1' ⟨rfl, rfl⟩
  refine ⟨_, rfl, ?_⟩
  repeat first|(with_reducible first|apply Yk|apply Yd|apply Ym|apply Yj|apply Yh|apply Yi|apply Yn|apply Yl|apply Ye|apply Yg|apply Yr|apply Yc|apply Yf|apply Yb|apply Ya)|((with_reducible apply ws);exact rfl;exact rfl)|((with_reducible apply Yo);exact rfl;exact rfl;exact rfl)|((with_reducible apply Yq);exact rfl;exact rfl;exact rfl;exact rfl)|((with_reducible apply Yp);exact rfl;exact rfl;exact rfl)
  refine Uu (args := []) (vs := []) rfl mv rfl iv rfl ((cv w1' hw1).mono ?_)
  rintro e w1 ⟨rfl, rfl⟩
  refine ⟨_, rfl, ?_⟩
  repeat first|(with_reducible first|apply Yk|apply Yd|apply Ym|apply Yj|apply Yh|apply Yi|apply Yn|apply Yl|apply Ye|apply Yg|apply Yr|apply Yc|apply Yf|apply Yb|apply Ya)|((with_reducible apply ws);exact rfl;exact rfl)|((with_reducible apply Yo);exact rfl;exact rfl;exact rfl)|((with_reducible apply Yq);exact rfl;exact rfl;exact rfl;exact rfl)|((with_reducible apply Yp);exact rfl;exact rfl;exact rfl)
  refine Yu rfl (by kernel_rfl) rfl ((VY key d1 w1 w.heap.size _ trivial ho1 (by omega) (by simp only [List.length_append, be_length, List.length_cons, List.length_nil]; omega)).mono ?_)
  rintro e w2 ⟨d2, rfl, ho2, hg2⟩
  refine ⟨_, rfl, ?_⟩
  have hw2 := hw1.trans (hg2.below (by omega) ho1.ge)
  have hz2 := hw2.size
  repeat first|(with_reducible first|apply Yk|apply Yd|apply Ym|apply Yj|apply Yh|apply Yi|apply Yn|apply Yl|apply Ye|apply Yg|apply Yr|apply Yc|apply Yf|apply Yb|apply Ya)|((with_reducible apply ws);exact rfl;exact rfl)|((with_reducible apply Yo);exact rfl;exact rfl;exact rfl)|((with_reducible apply Yq);exact rfl;exact rfl;exact rfl;exact rfl)|((with_reducible apply Yp);exact rfl;exact rfl;exact rfl)
  refine Yu rfl (by kernel_rfl) rfl ((VY ver d2 w2 w.heap.size _ trivial ho2 (by omega) (by simp only [List.length_append, be_length, List.length_cons, List.length_nil]; omega)).mono ?_)
  rintro e w3 ⟨d3, rfl, ho3, hg3⟩
  refine ⟨_, rfl, ?_⟩
  have hw3 := hw2.trans (hg3.below (by omega) ho2.ge)
  have hz3 := hw3.size
  repeat first|(with_reducible first|apply Yk|apply Yd|apply Ym|apply Yj|apply Yh|apply Yi|apply Yn|apply Yl|apply Ye|apply Yg|apply Yr|apply Yc|apply Yf|apply Yb|apply Ya)|((with_reducible apply ws);exact rfl;exact rfl)|((with_reducible apply Yo);exact rfl;exact rfl;exact rfl)|((with_reducible apply Yq);exact rfl;exact rfl;exact rfl;exact rfl)|((with_reducible apply Yp);exact rfl;exact rfl;exact rfl)
  refine Yu rfl (by kernel_rfl) rfl ((Jv number d3 w3 w.heap.size _ trivial ho3 (by omega) (by simp only [List.length_append, be_length, List.length_cons, List.length_nil]; omega)).mono ?_)
  rintro e w4 ⟨d4, rfl, ho4, hg4⟩
  refine ⟨_, rfl, ?_⟩
  have hw4 := hw3.trans (hg4.below (by omega) ho3.ge)
  have hz4 := hw4.size
  repeat first|(with_reducible first|apply Yk|apply Yd|apply Ym|apply Yj|apply Yh|apply Yi|apply Yn|apply Yl|apply Ye|apply Yg|apply Yr|apply Yc|apply Yf|apply Yb|apply Ya)|((with_reducible apply ws);exact rfl;exact rfl)|((with_reducible apply Yo);exact rfl;exact rfl;exact rfl)|((with_reducible apply Yq);exact rfl;exact rfl;exact rfl;exact rfl)|((with_reducible apply Yp);exact rfl;exact rfl;exact rfl)
  rw [e7]
  repeat first|(with_reducible first|apply Yk|apply Yd|apply Ym|apply Yj|apply Yh|apply Yi|apply Yn|apply Yl|apply Ye|apply Yg|apply Yr|apply Yc|apply Yf|apply Yb|apply Ya)|((with_reducible apply ws);exact rfl;exact rfl)|((with_reducible apply Yo);exact rfl;exact rfl;exact rfl)|((with_reducible apply Yq);exact rfl;exact rfl;exact rfl;exact rfl)|((with_reducible apply Yp);exact rfl;exact rfl;exact rfl)
  refine YE rfl rfl ?_
  repeat first|(with_reducible first|apply Yk|apply Yd|apply Ym|apply Yj|apply Yh|apply Yi|apply Yn|apply Yl|apply Ye|apply Yg|apply Yr|apply Yc|apply Yf|apply Yb|apply Ya)|((with_reducible apply ws);exact rfl;exact rfl)|((with_reducible apply Yo);exact rfl;exact rfl;exact rfl)|((with_reducible apply Yq);exact rfl;exact rfl;exact rfl;exact rfl)|((with_reducible apply Yp);exact rfl;exact rfl;exact rfl)
  refine XJ rfl fo_fmt rfl ?_
  refine Xl rfl to_pstr rfl (show w4.cell? ⟨fb, 0 + 0, none⟩ = some sv from by rw [← hsv]; simp only [World.cell?, hw4.block _ hfb]) ?_
  refine Yu rfl (by kernel_rfl) rfl ((cs w4 d4 _ w.heap.size hw4 ho4 (by omega) (by simp only [List.length_append, be_length, List.length_cons, List.length_nil, lim]; omega)).mono ?_)
  rintro e w5 ⟨d5, rfl, ho5, hg5⟩
  refine ⟨_, rfl, ?_⟩
  have hw5 := hw4.trans (hg5.below (by omega) ho4.ge)
  have hz5 := hw5.size
  repeat first|(with_reducible first|apply Yk|apply Yd|apply Ym|apply Yj|apply Yh|apply Yi|apply Yn|apply Yl|apply Ye|apply Yg|apply Yr|apply Yc|apply Yf|apply Yb|apply Ya)|((with_reducible apply ws);exact rfl;exact rfl)|((with_reducible apply Yo);exact rfl;exact rfl;exact rfl)|((with_reducible apply Yq);exact rfl;exact rfl;exact rfl;exact rfl)|((with_reducible apply Yp);exact rfl;exact rfl;exact rfl)
  generalize hns0 : (bif cid.isSome then be 2 (idOf cid).length ++ idOf cid else be 2 (-1)) = ns at hns ho5
  refine Uu (args := []) (vs := []) rfl mi rfl ii rfl ((ci w5 hw5).mono ?_)
  rintro e wx ⟨rfl, rfl⟩
  refine ⟨_, rfl, ?_⟩
  repeat first|(with_reducible first|apply Yk|apply Yd|apply Ym|apply Yj|apply Yh|apply Yi|apply Yn|apply Yl|apply Ye|apply Yg|apply Yr|apply Yc|apply Yf|apply Yb|apply Ya)|((with_reducible apply ws);exact rfl;exact rfl)|((with_reducible apply Yo);exact rfl;exact rfl;exact rfl)|((with_reducible apply Yq);exact rfl;exact rfl;exact rfl;exact rfl)|((with_reducible apply Yp);exact rfl;exact rfl;exact rfl)
  cases flex
  · refine YE rfl rfl ?_
    repeat first|(with_reducible first|apply Yk|apply Yd|apply Ym|apply Yj|apply Yh|apply Yi|apply Yn|apply Yl|apply Ye|apply Yg|apply Yr|apply Yc|apply Yf|apply Yb|apply Ya)|((with_reducible apply ws);exact rfl;exact rfl)|((with_reducible apply Yo);exact rfl;exact rfl;exact rfl)|((with_reducible apply Yq);exact rfl;exact rfl;exact rfl;exact rfl)|((with_reducible apply Yp);exact rfl;exact rfl;exact rfl)
    refine Uu (args := [.tmp 50]) (vs := [d5]) rfl ma rfl ia rfl ((ca wx d5 _ w.heap.size hw5 (Nat.le_refl _) ho5 (by omega) (by simp only [List.length_append, be_length, List.length_cons, List.length_nil]; omega)).mono ?_)
    rintro e w6 ⟨d6, rfl, ho6, hg6⟩
    refine ⟨_, rfl, ?_⟩
    have hw6 := hw5.trans (hg6.below (by omega) ho5.ge)
    have hz6 := hw6.size
    repeat first|(with_reducible first|apply Yk|apply Yd|apply Ym|apply Yj|apply Yh|apply Yi|apply Yn|apply Yl|apply Ye|apply Yg|apply Yr|apply Yc|apply Yf|apply Yb|apply Ya)|((with_reducible apply ws);exact rfl;exact rfl)|((with_reducible apply Yo);exact rfl;exact rfl;exact rfl)|((with_reducible apply Yq);exact rfl;exact rfl;exact rfl;exact rfl)|((with_reducible apply Yp);exact rfl;exact rfl;exact rfl)
    obtain ⟨g, cap, cur, rfl, hcur, hcap, hc4, hBg, hown⟩ := tail_w w w6 d6 (Vt key ver number cid.isSome (idOf cid) false wire) hw6 (by rw [← hns0] at ho6; simpa only [Vt, cond_true, cond_false, List.append_assoc, List.append_nil, List.cons_append, List.nil_append] using ho6)
    have hfl : (Vt key ver number cid.isSome (idOf cid) false wire).length ≤ lim := by
      rw [← hns0] at hns; unfold Vt; simp only [List.length_append, be_length, cond_true, cond_false, List.length_cons, List.length_nil] at hns ⊢; omega
    generalize hbs : Vt key ver number cid.isSome (idOf cid) false wire = bs at *
    refine Vb [(0, .slice (some ⟨g, 0, none⟩) (4 + bs.length) cap), (1, .slice (some ⟨g, 0, none⟩) 0 cap), (2, .slice (some ⟨g, 0, none⟩) (4 + bs.length) cap), (3, .slice (if cap = 4 then some ⟨g, 0, none⟩ else (some ⟨g, 0, none⟩ : Option Addr).map (·.add 4)) (4 + bs.length - 4) (cap - 4)), (4, .int .i64 ((4 + bs.length - 4 : Nat) : Int)), (5, .int .i32 (IntKind.i32.wrap ((4 + bs.length - 4 : Nat) : Int)))] [6] (fun vals w' => match vals with
        | [] => w'.heap = w6.heap ∧ w6.grownBy w' none
        | _ => w'.heap[g]? = some (.cells (bv (be 4 bs.length) ++ cur.toList.drop 4).toArray 5 (0, 0)) ∧ w6.grownBy w' (some g))
      mixed rfl rfl rfl rfl rfl (by show ([0,1,2,3,4,5] : List Nat).Nodup; decide) rfl rfl (by decide) rfl rfl rfl rfl ⟨rfl, UV w6 none⟩ ?_ ⟨?_, trivial⟩ ?_
    · intro p hp vals w' hC a' k
      simp only [List.mem_cons, List.not_mem_nil, or_false] at hp
      rcases hp with rfl | rfl | rfl | rfl | rfl | rfl
      · exact gv rfl rfl (YC k rfl)
      · exact gv rfl rfl (rn_slice0 k rfl el_bytes)
      · exact gv rfl rfl (YC k rfl)
      · exact gv rfl rfl (Ym2 (m := 4) k rfl rfl es_bytes (by omega))
      · exact gv rfl rfl (Yl5 k rfl el_bytes)
      · exact gv rfl rfl (Rdk.UA .i32 k rfl ti_i64 ti_i32 rfl)
    · rintro vals w' hvl hC a' k
      match vals, hvl with
      | [], _ =>
        refine ⟨_, rfl, YQ k rfl (by kernel_rfl) ((Jh _ w' g cap cur (by rw [hC.1]; exact hcur) (by omega) hc4).mono ?_)⟩
        rintro e w'' ⟨v, rfl, h1, h2⟩
        have hbe : be 4 (IntKind.i32.wrap ((4 + bs.length - 4 : Nat) : Int)) = be 4 (bs.length : Int) := by
          rw [show 4 + bs.length - 4 = bs.length from by omega]
          exact be_wrap32 _
        rw [hbe] at h1
        have h3 := hC.2
        exact ⟨_, rfl, h1, ⟨h2.os.trans h3.os, h2.tape.trans h3.tape, h2.output.trans h3.output, Nat.le_trans h3.size h2.size, fun j hj hne => (h2.block j (by have := h3.size; omega) hne).trans (h3.block j hj (by simp))⟩⟩
    · rintro vals w' hvl hC
      match vals, hvl with
      | [v6], _ =>
        obtain ⟨h1, h2⟩ := hown w' _ hC.1 hC.2
        refine Yj ?_
        repeat first|(with_reducible first|apply Yk|apply Yd|apply Ym|apply Yj|apply Yh|apply Yi|apply Yn|apply Yl|apply Ye|apply Yg|apply Yr|apply Yc|apply Yf|apply Yb|apply Ya)|((with_reducible apply ws);exact rfl;exact rfl)|((with_reducible apply Yo);exact rfl;exact rfl;exact rfl)|((with_reducible apply Yq);exact rfl;exact rfl;exact rfl;exact rfl)|((with_reducible apply Yp);exact rfl;exact rfl;exact rfl)
        exact Yt rfl rfl ⟨_, rfl, (by unfold Uj; rw [hbs]; exact h1), h2⟩
  · refine Yz rfl rfl ?_
    repeat first|(with_reducible first|apply Yk|apply Yd|apply Ym|apply Yj|apply Yh|apply Yi|apply Yn|apply Yl|apply Ye|apply Yg|apply Yr|apply Yc|apply Yf|apply Yb|apply Ya)|((with_reducible apply ws);exact rfl;exact rfl)|((with_reducible apply Yo);exact rfl;exact rfl;exact rfl)|((with_reducible apply Yq);exact rfl;exact rfl;exact rfl;exact rfl)|((with_reducible apply Yp);exact rfl;exact rfl;exact rfl)
    refine Xq tb_bytes rfl (ys := [0]) rfl rfl rfl rfl rfl rfl ho5 (by omega) (by simp only [List.length_append, be_length, List.length_cons, List.length_nil]; omega) (fun d6 w6 ho6 hg6 => ?_)
    have hw6 := hw5.trans (hg6.below (by omega) ho5.ge)
    have hz6 := hw6.size
    repeat first|(with_reducible first|apply Yk|apply Yd|apply Ym|apply Yj|apply Yh|apply Yi|apply Yn|apply Yl|apply Ye|apply Yg|apply Yr|apply Yc|apply Yf|apply Yb|apply Ya)|((with_reducible apply ws);exact rfl;exact rfl)|((with_reducible apply Yo);exact rfl;exact rfl;exact rfl)|((with_reducible apply Yq);exact rfl;exact rfl;exact rfl;exact rfl)|((with_reducible apply Yp);exact rfl;exact rfl;exact rfl)
    refine YE rfl (by decide) ?_
    repeat first|(with_reducible first|apply Yk|apply Yd|apply Ym|apply Yj|apply Yh|apply Yi|apply Yn|apply Yl|apply Ye|apply Yg|apply Yr|apply Yc|apply Yf|apply Yb|apply Ya)|((with_reducible apply ws);exact rfl;exact rfl)|((with_reducible apply Yo);exact rfl;exact rfl;exact rfl)|((with_reducible apply Yq);exact rfl;exact rfl;exact rfl;exact rfl)|((with_reducible apply Yp);exact rfl;exact rfl;exact rfl)
    refine Uu (args := [.tmp 50]) (vs := [d6]) rfl ma rfl ia rfl ((ca w6 d6 _ w.heap.size hw6 (Nat.le_refl _) ho6 (by omega) (by simp only [List.length_append, be_length, List.length_cons, List.length_nil]; omega)).mono ?_)
    rintro e w7 ⟨d7, rfl, ho7, hg7⟩
    refine ⟨_, rfl, ?_⟩
    have hw7 := hw6.trans (hg7.below (by omega) ho6.ge)
    have hz7 := hw7.size
    repeat first|(with_reducible first|apply Yk|apply Yd|apply Ym|apply Yj|apply Yh|apply Yi|apply Yn|apply Yl|apply Ye|apply Yg|apply Yr|apply Yc|apply Yf|apply Yb|apply Ya)|((with_reducible apply ws);exact rfl;exact rfl)|((with_reducible apply Yo);exact rfl;exact rfl;exact rfl)|((with_reducible apply Yq);exact rfl;exact rfl;exact rfl;exact rfl)|((with_reducible apply Yp);exact rfl;exact rfl;exact rfl)
    obtain ⟨g, cap, cur, rfl, hcur, hcap, hc4, hBg, hown⟩ := tail_w w w7 d7 (Vt key ver number cid.isSome (idOf cid) true wire) hw7 (by rw [← hns0] at ho7; simpa only [Vt, cond_true, cond_false, List.append_assoc, List.append_nil, List.cons_append, List.nil_append] using ho7)
    have hfl : (Vt key ver number cid.isSome (idOf cid) true wire).length ≤ lim := by
      rw [← hns0] at hns; unfold Vt; simp only [List.length_append, be_length, cond_true, cond_false, List.length_cons, List.length_nil] at hns ⊢; omega
    generalize hbs : Vt key ver number cid.isSome (idOf cid) true wire = bs at *
    refine Vb [(0, .slice (some ⟨g, 0, none⟩) (4 + bs.length) cap), (1, .slice (some ⟨g, 0, none⟩) 0 cap), (2, .slice (some ⟨g, 0, none⟩) (4 + bs.length) cap), (3, .slice (if cap = 4 then some ⟨g, 0, none⟩ else (some ⟨g, 0, none⟩ : Option Addr).map (·.add 4)) (4 + bs.length - 4) (cap - 4)), (4, .int .i64 ((4 + bs.length - 4 : Nat) : Int)), (5, .int .i32 (IntKind.i32.wrap ((4 + bs.length - 4 : Nat) : Int)))] [6] (fun vals w' => match vals with
        | [] => w'.heap = w7.heap ∧ w7.grownBy w' none
        | _ => w'.heap[g]? = some (.cells (bv (be 4 bs.length) ++ cur.toList.drop 4).toArray 5 (0, 0)) ∧ w7.grownBy w' (some g))
      mixed rfl rfl rfl rfl rfl (by show ([0,1,2,3,4,5] : List Nat).Nodup; decide) rfl rfl (by decide) rfl rfl rfl rfl ⟨rfl, UV w7 none⟩ ?_ ⟨?_, trivial⟩ ?_
    · intro p hp vals w' hC a' k
      simp only [List.mem_cons, List.not_mem_nil, or_false] at hp
      rcases hp with rfl | rfl | rfl | rfl | rfl | rfl
      · exact gv rfl rfl (YC k rfl)
      · exact gv rfl rfl (rn_slice0 k rfl el_bytes)
      · exact gv rfl rfl (YC k rfl)
      · exact gv rfl rfl (Ym2 (m := 4) k rfl rfl es_bytes (by omega))
      · exact gv rfl rfl (Yl5 k rfl el_bytes)
      · exact gv rfl rfl (Rdk.UA .i32 k rfl ti_i64 ti_i32 rfl)
    · rintro vals w' hvl hC a' k
      match vals, hvl with
      | [], _ =>
        refine ⟨_, rfl, YQ k rfl (by kernel_rfl) ((Jh _ w' g cap cur (by rw [hC.1]; exact hcur) (by omega) hc4).mono ?_)⟩
        rintro e w'' ⟨v, rfl, h1, h2⟩
        have hbe : be 4 (IntKind.i32.wrap ((4 + bs.length - 4 : Nat) : Int)) = be 4 (bs.length : Int) := by
          rw [show 4 + bs.length - 4 = bs.length from by omega]
          exact be_wrap32 _
        rw [hbe] at h1
        have h3 := hC.2
        exact ⟨_, rfl, h1, ⟨h2.os.trans h3.os, h2.tape.trans h3.tape, h2.output.trans h3.output, Nat.le_trans h3.size h2.size, fun j hj hne => (h2.block j (by have := h3.size; omega) hne).trans (h3.block j hj (by simp))⟩⟩
    · rintro vals w' hvl hC
      match vals, hvl with
      | [v6], _ =>
        obtain ⟨h1, h2⟩ := hown w' _ hC.1 hC.2
        refine Yj ?_
        repeat first|(with_reducible first|apply Yk|apply Yd|apply Ym|apply Yj|apply Yh|apply Yi|apply Yn|apply Yl|apply Ye|apply Yg|apply Yr|apply Yc|apply Yf|apply Yb|apply Ya)|((with_reducible apply ws);exact rfl;exact rfl)|((with_reducible apply Yo);exact rfl;exact rfl;exact rfl)|((with_reducible apply Yq);exact rfl;exact rfl;exact rfl;exact rfl)|((with_reducible apply Yp);exact rfl;exact rfl;exact rfl)
        exact Yt rfl rfl ⟨_, rfl, (by unfold Uj; rw [hbs]; exact h1), h2⟩
end
end Go.Proofs.YtmihblfjhoblmaaGreatDoor.Frm
