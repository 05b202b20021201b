/- A part of the proof of FnFrameEndQuorumEpochRequestUptoCardSaid: what its texts prove stands at the head of each. Conditions: those that each theorem names. -/
import Derived.Test.YtgjplodgdgaakaaGreatDoorPartB
import Derived.Test.YtgjplodgdgaakaaGreatDoorPartC
import Derived.ScopeJumps
import Derived.Laws.BytesString
import Derived.Carry
import Derived.Test.YtgjplodgdgaakaaGreatDoorPartA
import Derived.Deep.QuietTactic
import Derived.Sort.LotA
import Derived.Maps.RangeRun
set_option linter.all false
/- What structs hold of a tree as far as a version goes; what is appended of them. No program in sight. -/
namespace Go.Proofs.YtgjplodgdgaakaaGreatDoor
open Go Go.RowKit

def Yj5 (ver kind nul : Int) (t : Tree) (d : D) : Prop :=
  if kind = 9 ∧ ¬ (0 ≤ nul ∧ nul ≤ ver) then d.isAgg = false ∧ shD d = [.sl] ∧ ∃ n, sliceOf d = some (n, t.s.map byteD) else d = Xx kind nul t
/-- A list's cell. -/
def HoldS (ver nul : Int) (t : Tree) (Q : List D → Prop) (d : D) : Prop :=
  (0 ≤ nul ∧ t.nul = true ∧ d = .sl true []) ∨ (¬ (0 ≤ nul ∧ t.nul = true) ∧ d.isAgg = false ∧ shD d = [.sl] ∧ ∃ n els, sliceOf d = some (n, els) ∧ (0 ≤ nul → nul ≤ ver → isnOf d = some false) ∧ els.length = t.l.length ∧ Q els)
def Yc5 (tg flex : Bool) (t : Tree) (b : List D) : Prop := if tg then (if flex then b = [Uz t.u] else ∃ d, b = [d] ∧ shD d = [.mp]) else b = []
mutual
def HoldF (ver : Int) (tg flex : Bool) : Fld → Tree → List D → Prop
  | .mk kind _ _ nul _ _ of sub, t, ds =>
    if kind = 11 then ∃ d, ds = [d] ∧ HoldS ver nul t (fun els =>
      (if of = 10 then ∀ i, i < t.l.length → ∃ a b, els[i]? = some (.agg (a ++ b)) ∧ Vs ver tg flex sub 0 (att t i) a ∧ Yc5 tg flex (att t i) b
       else els = t.l.map (Xx of (-1)))) d
    else if kind = 10 then (if 0 ≤ nul then (t.nul = true ∧ ds = [.lit (.pointer none)]) ∨ (t.nul = false ∧ ∃ a b, ds = [.ptr (.agg (a ++ b))] ∧ Vs ver tg flex sub 0 t a ∧ Yc5 tg flex t b)
      else ∃ a b, ds = a ++ b ∧ Vs ver tg flex sub 0 t a ∧ Yc5 tg flex t b)
    else ∃ d, ds = [d] ∧ Yj5 ver kind nul t d
def Vs (ver : Int) (tg flex : Bool) : List Fld → Nat → Tree → List D → Prop
  | [], _, _, ds => ds = []
  | f :: fs, i, t, ds => ∃ a b, ds = a ++ b ∧ shDs a = shF tg f ∧ pos a ∧ (f.has ver = true → HoldF ver tg flex f (att t i) a) ∧ Vs ver tg flex fs (i + 1) t b
end
def UF (ver : Int) (tg flex : Bool) (fs : List Fld) (t : Tree) (ds : List D) : Prop := ∃ a b, ds = a ++ b ∧ Vs ver tg flex fs 0 t a ∧ Yc5 tg flex t b
theorem HoldF_mk (ver : Int) (tg flex : Bool) (kind fr upto nul tag df of : Int) (sub : List Fld) (t : Tree) (ds : List D) : HoldF ver tg flex (.mk kind fr upto nul tag df of sub) t ds ↔
    if kind = 11 then ∃ d, ds = [d] ∧ HoldS ver nul t (fun els => if of = 10 then ∀ i, i < t.l.length → ∃ ps, els[i]? = some (.agg ps) ∧ UF ver tg flex sub (att t i) ps else els = t.l.map (Xx of (-1))) d
    else if kind = 10 then (if 0 ≤ nul then (t.nul = true ∧ ds = [.lit (.pointer none)]) ∨ (t.nul = false ∧ ∃ ps, ds = [.ptr (.agg ps)] ∧ UF ver tg flex sub t ps) else UF ver tg flex sub t ds)
    else ∃ d, ds = [d] ∧ Yj5 ver kind nul t d := by
  simp only [HoldF, UF]
  by_cases h11 : kind = 11
  · simp only [h11, if_true]
    by_cases h10 : of = 10
    · simp only [h10, if_true]
      have e : ∀ els : List D, (∀ i, i < t.l.length → ∃ a b, els[i]? = some (.agg (a ++ b)) ∧ Vs ver tg flex sub 0 (att t i) a ∧ Yc5 tg flex (att t i) b) ↔ (∀ i, i < t.l.length → ∃ ps, els[i]? = some (.agg ps) ∧ ∃ a b, ps = a ++ b ∧ Vs ver tg flex sub 0 (att t i) a ∧ Yc5 tg flex (att t i) b) := by
        intro els
        constructor
        · intro h i hi
          obtain ⟨a, b, k1, k2, k3⟩ := h i hi
          exact ⟨a ++ b, k1, a, b, rfl, k2, k3⟩
        · intro h i hi
          obtain ⟨ps, k1, a, b, rfl, k2, k3⟩ := h i hi
          exact ⟨a, b, k1, k2, k3⟩
      simp only [e]
    · simp only [h10, if_false]
  · simp only [h11, if_false]
    by_cases h10 : kind = 10
    · simp only [h10, if_true]
      by_cases hn : 0 ≤ nul
      · simp only [hn, if_true]
        constructor
        · rintro (h | ⟨h1, a, b, h2, h3, h4⟩)
          · exact .inl h
          · exact .inr ⟨h1, a ++ b, h2, a, b, rfl, h3, h4⟩
        · rintro (h | ⟨h1, ps, h2, a, b, rfl, h3, h4⟩)
          · exact .inl h
          · exact .inr ⟨h1, a, b, h2, h3, h4⟩
      · simp only [hn, if_false]
    · simp only [h10, if_false]
theorem Yc5.sh {tg flex : Bool} {t : Tree} {b : List D} (h : Yc5 tg flex t b) : shDs b = (if tg then [.mp] else []) ∧ pos b := by
  unfold Yc5 at h
  cases tg with
  | false => simp at h; subst h; exact ⟨rfl, fun d hd => by cases hd⟩
  | true =>
    simp only [if_true] at h ⊢
    cases flex with
    | true => simp at h; subst h; exact ⟨by simp [shDs, Uz, shD], fun d hd => by simp at hd; subst hd; simp [Uz, D.width]⟩
    | false =>
      simp at h
      obtain ⟨d, rfl, hd⟩ := h
      refine ⟨by simp [shDs, hd], fun x hx => ?_⟩
      simp at hx; subst hx
      rw [← sh_width, hd]; simp
theorem Vs.sh {ver : Int} {tg flex : Bool} : ∀ {fs : List Fld} {i : Nat} {t : Tree} {ds : List D}, Vs ver tg flex fs i t ds → shDs ds = shFs tg fs ∧ pos ds
  | [], i, t, ds, h => by simp only [Vs] at h; subst h; exact ⟨rfl, fun d hd => by cases hd⟩
  | f :: fs, i, t, ds, h => by
    simp only [Vs] at h
    obtain ⟨a, b, rfl, h1, h2, _, h4⟩ := h
    obtain ⟨h5, h6⟩ := Vs.sh h4
    exact ⟨by simp only [shDs_append, shFs, h1, h5], Je h2 h6⟩
theorem UF.sh {ver : Int} {tg flex : Bool} {fs : List Fld} {t : Tree} {ds : List D} (h : UF ver tg flex fs t ds) : shDs ds = shP tg fs ∧ pos ds := by
  obtain ⟨a, b, rfl, h1, h2⟩ := h
  exact ⟨by rw [shDs_append, h1.sh.1, h2.sh.1]; rfl, Je h1.sh.2 h2.sh.2⟩
section
variable {E : List (List D)} {k off : Nat} {pre post : List D} {ver : Int} {flex : Bool}
theorem exV_okH (kind nul : Int) (t : Tree) (p : Tree → List UInt8) {d : D} (hd : Yj5 ver kind nul t d) (hk : E[k]? = some (pre ++ d :: post)) (hp : pos pre) (hw : D.widths pre = off) (hfit : FitV kind t) (hnul : 0 ≤ nul → t.nul = true → nul ≤ ver) (h8 : kind = 8 → 0 ≤ nul → nul ≤ ver)
    (hk10 : kind ≠ 10) : Ul E (exV kind nul ver flex k off) = some (Xu kind flex (t.nul && decide (0 ≤ nul) && decide (nul ≤ ver)) p t) := by
  unfold Yj5 at hd
  split at hd
  · rename_i h
    obtain ⟨rfl, hnv⟩ := h
    obtain ⟨hag, _, n, hsl⟩ := hd
    have hM : XQ = 32767 := rfl
    have hs := hfit (.inr rfl)
    have hwh := UI hs
    have e2 : exV 9 nul ver flex k off = [.call (if flex then .cbytes else .bytes) [.cel k off]] := by simp [exV, hnv]
    rw [e2, XM (VT hk hp hw hag)]
    have hnull : (t.nul && decide (0 ≤ nul) && decide (nul ≤ ver)) = false := by
      cases hb : t.nul with
      | false => rfl
      | true =>
        cases h1 : decide (0 ≤ nul) with
        | false => rfl
        | true => exact absurd ⟨of_decide_eq_true h1, hnul (of_decide_eq_true h1) hb⟩ hnv
    rw [hnull]
    have hb2 := Uh t.s
    have hlen : t.s.length < 2147483648 := by omega
    cases flex <;> simp [semP, Xu, YF, hwh, hsl, hb2, hlen]
  · subst hd
    exact exV_ok kind nul t p hk hp hw hfit hnul h8 hk10
end
theorem exP_ofH {ver : Int} {tg flex : Bool} {fs : List Fld} {m k off : Nat} {t : Tree} {E : List (List D)} {pre post ds : List D} (htg : flex = true → tg = true) (hh : UF ver tg flex fs t ds)
    (hfs : ∀ a pre' post', Vs ver tg flex fs 0 t a → E[k]? = some (pre' ++ a ++ post') → pos pre' → D.widths pre' = off → Ul E (exFs ver tg flex m k off fs) = some (wFs ver flex fs 0 t))
    (hk : E[k]? = some (pre ++ ds ++ post)) (hp : pos pre) (hw : D.widths pre = off) (hf : Jm ver fs 0 t) (hu : FitU fs t) : Ul E (exP ver tg flex m k off fs) = some (YO ver flex fs t) := by
  obtain ⟨a, b, rfl, ha, hb⟩ := hh
  have h1 := hfs a pre (b ++ post) ha (by rw [hk]; simp [List.append_assoc]) hp hw
  unfold exP YO
  rw [Vm, h1]
  rw [Yi6 hf hu]
  cases flex with
  | false => simp [Ul, asm]
  | true =>
    have htg' := htg rfl
    subst htg'
    simp only [Yc5, if_true] at hb
    subst hb
    have h2 := exTags_ok (E := E) (k := k) (off := off + (shFs true fs).length) (pre := pre ++ a) (post := post) (u := t.u)
      (by rw [hk]; simp [List.append_assoc]) (by rw [widths_append, hw, ← shs_width, ha.sh.1]) hu.2
    simp only [if_true, h2, asm]
theorem semE_get {E : List (List D)} {sh : List Ck} {body : List Out} {α : Type} (b : α → List UInt8) : ∀ (l : List α) (els : List D), els.length = l.length → (∀ i (h : i < l.length), ∃ d, els[i]? = some d ∧ shD d = sh ∧ Ul (E ++ [parts d]) body = some (b l[i])) → semE E sh body els = some (l.flatMap b)
  | [], [], _, _ => by simp [semE]
  | [], d :: els, h, _ => by simp at h
  | x :: l, [], h, _ => by simp at h
  | x :: l, d :: els, h, hall => by
    have h1 := hall 0 (by simp)
    simp only [List.getElem?_cons_zero, Option.some.injEq, List.getElem_cons_zero] at h1
    obtain ⟨_, rfl, h2, h3⟩ := h1
    have ih := semE_get b l els (by simpa using h) (fun i hi => by have := hall (i + 1) (by simpa using hi); simpa using this)
    simp only [semE, ih, h2, h3, if_true, List.flatMap_cons]
theorem att_get {t : Tree} {i : Nat} (h : i < t.l.length) : att t i = t.l[i] := by simp [att, List.getD_eq_getElem?_getD, h]
mutual
theorem exF_okH (ver : Int) (tg flex : Bool) (htg : flex = true → tg = true) : ∀ (f : Fld) (t : Tree) (E : List (List D)) (m k off : Nat) (pre post ds : List D), HoldF ver tg flex f t ds → E[k]? = some (pre ++ ds ++ post) → pos pre → D.widths pre = off → E.length = m → FitF ver f t →
    Ul E (exF ver tg flex m k off f) = some (Xn ver flex f t)
  | .mk kind fr upto nul tag df of sub, t, E, m, k, off, pre, post, ds, hh, hk, hp, hw, hm, hfit => by
    have hM : XQ = 32767 := rfl
    rw [HoldF_mk] at hh
    rw [exF_mk, VR ver flex kind fr upto nul tag df of sub t _ rfl]
    simp only [FitF] at hfit
    obtain ⟨hnul, h8, hfit⟩ := hfit
    by_cases h11 : kind = 11
    · simp only [h11, if_true] at hh hfit ⊢
      obtain ⟨hlen, hst, hpr⟩ := hfit
      obtain ⟨d, rfl, hcase⟩ := hh
      have hsem : ∀ els : List D, els.length = t.l.length → (if of = 10 then ∀ i, i < t.l.length → ∃ ps, els[i]? = some (.agg ps) ∧ UF ver tg flex sub (att t i) ps else els = t.l.map (Xx of (-1))) → semE E (shE tg of sub) (if of = 10 then exP ver tg flex (m + 1) m 0 sub else exV of (-1) ver flex m 0) els = some (t.l.flatMap (Xu of flex false (YO ver flex sub))) := by
        intro els hel hels
        by_cases h10 : of = 10
        · simp only [h10, if_true] at hels ⊢
          rw [show Xu 10 flex false (YO ver flex sub) = YO ver flex sub from funext fun x => by simp [Xu]]
          refine semE_get (YO ver flex sub) t.l els hel (fun i hi => ?_)
          obtain ⟨ps, h1, h2⟩ := hels i hi
          rw [att_get hi] at h2
          refine ⟨.agg ps, h1, by simp only [shD, h2.sh.1, shE, if_true], ?_⟩
          obtain ⟨hf, hu⟩ := hst h10 t.l[i] (List.getElem_mem hi)
          have hget : (E ++ [parts (D.agg ps)])[m]? = some ([] ++ ps ++ []) := by
            rw [← hm, List.getElem?_append_right (Nat.le_refl _), Nat.sub_self]; simp [parts]
          exact exP_ofH htg h2 (fun a pre' post' h0 h1 h2 h3 => JF ver tg flex htg sub 0 t.l[i] _ (m + 1) m 0 pre' post' a h0 h1 h2 h3 (by simp [hm]) hf) hget (fun d hd => by cases hd) rfl hf hu
        · simp only [h10, if_false] at hels ⊢
          subst hels
          obtain ⟨⟨h11', h7⟩, hv⟩ := hpr h10
          refine semE_all (Xx of (-1)) (Xu of flex false (YO ver flex sub)) t.l (fun x hx => ⟨?_, ?_⟩)
          · rw [Yg0]; simp [shE, h10]
          · have hget : (E ++ [parts (Xx of (-1) x)])[m]? = some ([] ++ parts (Xx of (-1) x)) := by
              rw [← hm, List.getElem?_append_right (Nat.le_refl _), Nat.sub_self]; simp
            have hpt : parts (Xx of (-1) x) = [Xx of (-1) x] := by
              unfold Xx
              repeat' split
              all_goals first | rfl | (exfalso; omega)
            rw [hpt] at hget ⊢
            have := exV_ok (off := 0) (ver := ver) (flex := flex) of (-1) x (YO ver flex sub) hget (fun d hd => by cases hd) rfl (hv x hx) (by omega) (by omega) h10
            simpa using this
      have hth := Yf6 hlen
      have hlt : t.l.length < 2147483648 := by omega
      have hk' : E[k]? = some (pre ++ d :: post) := by rw [hk]; simp
      have heach : ∀ (l : List D) (n : Bool), sliceOf d = some (n, l) → l.length < 2147483648 → ∀ ys, semE E (shE tg of sub) (if of = 10 then exP ver tg flex (m + 1) m 0 sub else exV of (-1) ver flex m 0) l = some ys →
          Ye7 E (.each k off (shE tg of sub) (if of = 10 then exP ver tg flex (m + 1) m 0 sub else exV of (-1) ver flex m 0)) = some ys := by
        intro l n hs hl ys hys
        subst hw
        simp only [Ye7, hk', Option.bind_some, dAt_mid pre d post hp, hs, hl, if_true, hys]
      have two : ∀ (a b : Out) (x y : List UInt8), Ye7 E a = some x → Ye7 E b = some y → Ul E [a, b] = some (x ++ y) := by
        intro a b x y h1 h2
        have := Vm E [a] [b]
        rw [Vi, Vi, h1, h2] at this
        exact this
      rcases hcase with ⟨hn, hb, rfl⟩ | ⟨hnn, hag, _, n, els, hs, hi, hel, hels⟩
      · have hv := hnul hn hb
        simp only [hn, hv, and_self, if_true, hb, decide_true, Bool.and_self, List.flatMap_nil, List.length_nil, List.append_nil]
        have h1 : Ye7 E (.call (if flex then .cnarr else .narr) [.len k off (shE tg of sub), .isn k off []]) = some (YF flex true 0 4) := by
          rw [sem_call2 (arg_len hk' hp hw rfl) (arg_isn hk' hp hw rfl)]
          cases flex <;> simp [semP, YF, uvar0]
        have := two _ _ _ _ h1 (heach [] true rfl (by simp) [] (by simp [semE]))
        rw [List.append_nil] at this
        exact this
      · have hnull : (t.nul && decide (0 ≤ nul) && decide (nul ≤ ver)) = false := by
          cases hb : t.nul with
          | false => rfl
          | true =>
            cases h1 : decide (0 ≤ nul) with
            | false => rfl
            | true => exact absurd ⟨of_decide_eq_true h1, hb⟩ hnn
        simp only [hnull, Bool.false_eq_true, if_false, hth]
        have h2 := heach els n hs (by omega) _ (hsem els hel hels)
        have hl := arg_len (sh := shE tg of sub) hk' hp hw hs
        have h1 : Ye7 E (if 0 ≤ nul ∧ nul ≤ ver then Out.call (if flex then .cnarr else .narr) [.len k off (shE tg of sub), .isn k off []] else .call (if flex then .carr else .arr) [.len k off (shE tg of sub)]) = some (YF flex false t.l.length 4) := by
          by_cases hnv : 0 ≤ nul ∧ nul ≤ ver
          · rw [if_pos hnv, sem_call2 hl (arg_isn hk' hp hw (hi hnv.1 hnv.2)), hel]
            have hlt' : (t.l.length : Int) < 2147483648 := by omega
            cases flex <;> simp [semP, YF, hlt']
          · rw [if_neg hnv]
            have := XM (p := if flex then Pf.carr else Pf.arr) hl
            rw [Vi] at this
            rw [this, hel]
            have hlt' : (t.l.length : Int) < 2147483648 := by omega
            cases flex <;> simp [semP, YF, hlt']
        exact two _ _ _ _ h1 h2
    · simp only [h11, if_false] at hh hfit ⊢
      by_cases h10 : kind = 10
      · simp only [h10, if_true] at hh hfit ⊢
        by_cases hn : 0 ≤ nul
        · simp only [hn, and_self, if_true, decide_true, Bool.and_true] at hh ⊢
          rw [Vi]
          rcases hh with ⟨hb, rfl⟩ | ⟨hb, ps, rfl, hps⟩
          · have hv := hnul hn hb
            have hk' : E[k]? = some (pre ++ .lit (.pointer none) :: post) := by rw [hk]; simp
            subst hw
            simp only [Ye7, hk', Option.bind_some, dAt_mid pre _ post hp, hv, hb, decide_true, Bool.and_self, if_true]
            rw [Vi]
            simp only [Ye7]
            rfl
          · have hk' : E[k]? = some (pre ++ .ptr (.agg ps) :: post) := by rw [hk]; simp
            subst hw
            have hget : (E ++ [parts (D.agg ps)])[m]? = some ([] ++ ps ++ []) := by
              rw [← hm, List.getElem?_append_right (Nat.le_refl _), Nat.sub_self]; simp [parts]
            have h1 := exP_ofH (ver := ver) (flex := flex) htg hps (fun a pre' post' h0 h1 h2 h3 => JF ver tg flex htg sub 0 t _ (m + 1) m 0 pre' post' a h0 h1 h2 h3 (by simp [hm]) hfit.1) hget (fun d hd => by cases hd) rfl hfit.1 hfit.2
            simp only [Ye7, hk', Option.bind_some, dAt_mid pre _ post hp, shD, hps.sh.1, if_true, hb, Bool.false_and, Bool.false_eq_true, if_false]
            have h2 := Vm (E ++ [parts (D.agg ps)]) [.lit 1] (exP ver tg flex (m + 1) m 0 sub)
            rw [h1, Vi] at h2
            simp only [Ye7, List.cons_append, List.nil_append] at h2
            rw [h2]; rfl
        · simp only [hn, if_false, and_false] at hh ⊢
          simp only [Xu]
          exact exP_ofH htg hh (fun a pre' post' h0 h1 h2 h3 => JF ver tg flex htg sub 0 t E m k off pre' post' a h0 h1 h2 h3 hm hfit.1) hk hp hw hfit.1 hfit.2
      · simp only [h10, if_false, false_and] at hh hfit ⊢
        obtain ⟨d, rfl, hd⟩ := hh
        have hk' : E[k]? = some (pre ++ d :: post) := by rw [hk]; simp
        exact exV_okH kind nul t _ hd hk' hp hw hfit hnul h8 h10
theorem JF (ver : Int) (tg flex : Bool) (htg : flex = true → tg = true) : ∀ (fs : List Fld) (i : Nat) (t : Tree) (E : List (List D)) (m k off : Nat) (pre post ds : List D), Vs ver tg flex fs i t ds → E[k]? = some (pre ++ ds ++ post) → pos pre → D.widths pre = off → E.length = m → Jm ver fs i t →
    Ul E (exFs ver tg flex m k off fs) = some (wFs ver flex fs i t)
  | [], _, _, _, _, _, _, _, _, _, _, _, _, _, _, _ => by simp [exFs, wFs, Ul]
  | f :: fs, i, t, E, m, k, off, pre, post, ds, hh, hk, hp, hw, hm, hfit => by
    simp only [Jm] at hfit
    obtain ⟨htag, hff, hrest⟩ := hfit
    simp only [Vs] at hh
    obtain ⟨a, b, rfl, hsa, hpa, hha, hhb⟩ := hh
    have ih := JF ver tg flex htg fs (i + 1) t E m k (off + (shF tg f).length) (pre ++ a) post b hhb (by rw [hk]; simp [List.append_assoc]) (Je hp hpa) (by rw [widths_append, hw, ← shs_width, hsa]) hm hrest
    simp only [exFs, wFs]
    rw [Vm, ih]
    by_cases hx : f.has ver = true
    · have h1 := exF_okH ver tg flex htg f (att t i) E m k off pre (b ++ post) a (hha hx) (by rw [hk]; simp [List.append_assoc]) hp hw hm (hff hx)
      simp only [hx, if_true, h1, htag, true_and]
    · have hh' : f.has ver = false := by simpa using hx
      simp [hh', Ul]
end
/-- What is appended of a struct that holds a tree. -/
theorem exP_ok {ver : Int} {tg flex : Bool} (htg : flex = true → tg = true) {fs : List Fld} {m k off : Nat} {t : Tree} {E : List (List D)} {pre post ds : List D} (hh : UF ver tg flex fs t ds) (hk : E[k]? = some (pre ++ ds ++ post)) (hp : pos pre) (hw : D.widths pre = off) (hm : E.length = m) (hf : FitT ver fs t) : Ul E (exP ver tg flex m k off fs) = some (YO ver flex fs t) :=
  exP_ofH htg hh (fun a pre' post' h0 h1 h2 h3 => JF ver tg flex htg fs 0 t E m k off pre' post' a h0 h1 h2 h3 hm hf.1) hk hp hw hf.1 hf.2
end Go.Proofs.YtgjplodgdgaakaaGreatDoor

/- What is read of what is written: one value, tags. No program in sight. -/
namespace Go.Proofs.YtgjplodgdgaakaaGreatDoor
open Go Go.RowKit

def rpV (kind nul ver : Int) (flex : Bool) : Rp :=
  if kind = 0 then .bool else if kind = 1 then .i8 else if kind = 2 then .i16 else if kind = 3 then .i32 else if kind = 5 then .u16 else if kind = 7 then .uuid
  else if kind = 8 then (if 0 ≤ nul ∧ nul ≤ ver then (if flex then .cnstr else .nstr) else (if flex then .cstr else .str))
  else if kind = 9 then (if 0 ≤ nul ∧ nul ≤ ver then (if flex then .cnbytes else .nbytes) else (if flex then .cbytes else .bytes))
  else .i64
/-- What cells say in these words they say in those. -/
def Imp (a b : List D) : Prop := ∀ (ok : Nat → Prop) (w : World) (cs : List Value), YX ok w a cs → YX ok w b cs
theorem Imp.refl (a : List D) : Imp a a := fun _ _ _ h => h
theorem Imp.app {a b c d : List D} (h : Imp a b) (k : Imp c d) : Imp (a ++ c) (b ++ d) := by
  intro ok w cs hr
  obtain ⟨c1, c2, rfl, h1, h2⟩ := (YX.app _ _ _).1 hr
  exact (YX.app _ _ _).2 ⟨c1, c2, rfl, h ok w c1 h1, k ok w c2 h2⟩
theorem Imp.one {a b : D} (h : ∀ (ok : Nat → Prop) (w : World) (cs : List Value), Rep ok w a cs → Rep ok w b cs) : Imp [a] [b] := by
  intro ok w cs hr
  simp only [YX] at hr ⊢
  obtain ⟨c1, c2, e, h1, h2⟩ := hr
  exact ⟨c1, c2, e, h ok w c1 h1, h2⟩
theorem rep_one {ok : Nat → Prop} {w : World} {d : D} {cs : List Value} : YX ok w [d] cs ↔ Rep ok w d cs := by
  simp only [YX]
  constructor
  · rintro ⟨c1, c2, rfl, h, rfl⟩; simpa using h
  · intro h; exact ⟨cs, [], by simp, h, rfl⟩
theorem imp_agg (ds : List D) : Imp ds [.agg ds] := by
  intro ok w cs hr
  rw [rep_one]; simpa only [Rep] using hr
theorem JT (n : Int) : IntKind.i16.wrap n = (n + 32768) % 65536 - 32768 := by
  simp [IntKind.wrap, IntKind.bits, IntKind.signed]
  split <;> omega
theorem unbe_go : ∀ (k : Nat) (z : Int) (m : Nat), ((be k z).foldl (fun n c => n * 256 + c.toNat) m : Nat) = (m : Int) * (256 ^ k : Nat) + z % (256 ^ k : Nat)
  | 0, z, m => by simp [be]
  | k + 1, z, m => by
    simp only [be, List.foldl_cons]
    rw [unbe_go k z]
    have h1 := Yj2 (z / (2 ^ (8 * k) : Nat))
    have h2 : (2 ^ (8 * k) : Nat) = 256 ^ k := by rw [Nat.pow_mul]
    rw [h2] at h1 ⊢
    have h3 : ((m * 256 + (Vu (z / (256 ^ k : Nat))).toNat : Nat) : Int) = m * 256 + (z / (256 ^ k : Nat)) % 256 := by
      rw [← h1]; simp only [Int.natCast_add, Int.natCast_mul]; rfl
    rw [h3]
    have hp : (0 : Int) < (256 ^ k : Nat) := by have : 0 < 256 ^ k := Nat.pow_pos (by omega); omega
    have h4 : ((256 ^ (k + 1) : Nat) : Int) = (256 ^ k : Nat) * 256 := by rw [Nat.pow_succ, Int.natCast_mul]; rfl
    rw [h4]
    generalize ((256 ^ k : Nat) : Int) = q at hp
    have e1 : z % (q * 256) = z % q + q * (z / q % 256) := by
      have a1 := Int.emod_def z (q * 256)
      have a2 := Int.emod_def z q
      have a3 := Int.emod_def (z / q) 256
      rw [Int.ediv_mul_of_nonneg (by omega)] at a1
      rw [a1, a2, a3, Int.mul_sub, Int.mul_assoc]
      omega
    rw [e1]
    generalize z / q % 256 = r
    rw [Int.add_mul, Int.mul_assoc, Int.mul_comm 256 q, Int.mul_comm r q]
    omega
theorem unbe_be (k : Nat) (z : Int) : (Ye0 (be k z) : Int) = z % (256 ^ k : Nat) := by
  have := unbe_go k z 0
  simp only [Ye0]
  rw [this]; simp
theorem JI (a s : List UInt8) (n : Nat) (h : a.length = n) : Yd8 n (a ++ s) = some (a, s) := by
  subst h
  simp [Yd8]
theorem be_size : ∀ (k : Nat) (n : Int), (be k n).length = k
  | 0, _ => rfl
  | k + 1, n => by simp [be, be_size k n]
theorem Vz (k : IntKind) (n m : Nat) (hk : k.bits = m) (h : 8 * n = m) (z : Int) (s : List UInt8) : Ye1 k n (be n z ++ s) = some (k.wrap z, s) := by
  simp only [Ye1]
  rw [JI _ _ _ (be_size n z)]
  simp only [Option.map_some]
  have e : k.wrap (Ye0 (be n z)) = k.wrap z := by
    rw [unbe_be]
    have h1 : (256 ^ n : Nat) = 2 ^ m := by rw [← h, Nat.pow_mul]
    rw [h1]
    subst hk
    cases k <;> simp only [IntKind.wrap, IntKind.bits, IntKind.signed] <;> simp <;> (try split) <;> omega
  rw [e]
theorem Xg (k : Nat) (c : UInt8) (r : List UInt8) : uvarR (k + 1) (c :: r) = if k = 0 then (if c.toNat ≤ 15 then some (c.toNat, r) else none)
      else if c.toNat < 128 then some (c.toNat, r)
      else match uvarR k r with
        | some (n, r') => some (c.toNat - 128 + 128 * n, r')
        | none => none := by rw [uvarR.eq_def]; rfl
theorem uvarR_uvar : ∀ (k n : Nat) (s : List UInt8), n < 16 * 128 ^ k → uvarR (k + 1) (uvar n ++ s) = some (n, s)
  | 0, n, s, h => by
    have : n < 128 := by simp at h; omega
    rw [Uj this]
    have e : (UInt8.ofNat n).toNat = n := by simp [UInt8.toNat_ofNat']; omega
    rw [List.cons_append, Xg]
    simp only [List.nil_append, if_true, e]
    rw [if_pos (by simp at h; omega)]
  | k + 1, n, s, h => by
    by_cases hn : n < 128
    · rw [Uj hn]
      have e : (UInt8.ofNat n).toNat = n := by simp [UInt8.toNat_ofNat']; omega
      rw [List.cons_append, Xg]
      simp only [List.nil_append, e]
      rw [if_neg (by omega), if_pos hn]
    · rw [VK (by omega)]
      have e : (UInt8.ofNat (n % 128 + 128)).toNat = n % 128 + 128 := by simp [UInt8.toNat_ofNat']; omega
      have ih := uvarR_uvar k (n / 128) s (by rw [Nat.pow_succ] at h; omega)
      rw [List.cons_append, Xg]
      simp only [e]
      rw [if_neg (by omega), if_neg (by omega), ih]
      simp only [Option.some.injEq, Prod.mk.injEq, and_true]
      omega
theorem Xz (n : Nat) (s : List UInt8) (h : n < 4294967296) : XC (uvar n ++ s) = some (n, s) := uvarR_uvar 4 n s (by omega)
theorem Vf (a s : List UInt8) (l : Int) (h : l = a.length) : Uk l (a ++ s) = some (a, s) := by
  subst h
  simp only [Uk]
  rw [if_neg (by omega), Int.toNat_natCast, JI _ _ _ rfl]
theorem rdP_ok (kind nul ver : Int) (flex : Bool) (t : Tree) (p : Tree → List UInt8) (s : List UInt8) (hfit : FitV kind t) (hnul : 0 ≤ nul → t.nul = true → nul ≤ ver) (h8 : kind = 8 → 0 ≤ nul → nul ≤ ver) (hk10 : kind ≠ 10) :
    ∃ nd d, rdP (rpV kind nul ver flex) (Xu kind flex (t.nul && decide (0 ≤ nul) && decide (nul ≤ ver)) p t ++ s) = some (nd, s) ∧ shDs nd = shV kind nul ∧ Ye5 nd ∧ Yj5 ver kind nul t d ∧ Imp nd [d] ∧ (kind ≠ 7 → nd = [d]) := by
  have hM : XQ = 32767 := rfl
  have lit : ∀ v : Value, Ye5 [.lit v] := fun v d hd => by simp at hd; subst hd; rfl
  have one : ∀ d : D, d.width = 1 → Ye5 [d] := fun d h x hx => by simp at hx; subst hx; exact h
  have hv : kind ≠ 9 → Yj5 ver kind nul t (Xx kind nul t) := fun h => by unfold Yj5; rw [if_neg (fun e => h e.1)]
  have sh1 : shDs [Xx kind nul t] = shV kind nul := by simp only [shDs, List.append_nil, Yg0]
  by_cases h0 : kind = 0
  · subst h0
    have e : Xx 0 nul t = .lit (.bool (decide (t.n % 2 = 1))) := by simp [Xx]
    refine ⟨[Xx 0 nul t], _, ?_, sh1, by rw [e]; exact lit _, hv (by omega), Imp.refl _, fun _ => rfl⟩
    have h2 : t.n % 2 = 0 ∨ t.n % 2 = 1 := by omega
    simp only [rpV, Xu, if_true, List.cons_append, List.nil_append, rdP, e]
    rcases h2 with h2 | h2 <;> rw [h2] <;> rfl
  by_cases h1 : kind = 1
  · subst h1
    have e : Xx 1 nul t = .lit (.int .i8 (IntKind.i8.wrap t.n)) := by simp [Xx]
    have e2 : Xu 1 flex (t.nul && decide (0 ≤ nul) && decide (nul ≤ ver)) p t = be 1 t.n := by simp [Xu, width]
    refine ⟨[Xx 1 nul t], _, ?_, sh1, by rw [e]; exact lit _, hv (by omega), Imp.refl _, fun _ => rfl⟩
    rw [e2, show rpV 1 nul ver flex = .i8 from rfl, rdP, Vz .i8 1 8 rfl rfl, e]; rfl
  by_cases h2 : kind = 2
  · subst h2
    have e : Xx 2 nul t = .lit (.int .i16 (IntKind.i16.wrap t.n)) := by simp [Xx]
    have e2 : Xu 2 flex (t.nul && decide (0 ≤ nul) && decide (nul ≤ ver)) p t = be 2 t.n := by simp [Xu, width]
    refine ⟨[Xx 2 nul t], _, ?_, sh1, by rw [e]; exact lit _, hv (by omega), Imp.refl _, fun _ => rfl⟩
    rw [e2, show rpV 2 nul ver flex = .i16 from rfl, rdP, Vz .i16 2 16 rfl rfl, e]; rfl
  by_cases h3 : kind = 3
  · subst h3
    have e : Xx 3 nul t = .lit (.int .i32 (IntKind.i32.wrap t.n)) := by simp [Xx]
    have e2 : Xu 3 flex (t.nul && decide (0 ≤ nul) && decide (nul ≤ ver)) p t = be 4 t.n := by simp [Xu, width]
    refine ⟨[Xx 3 nul t], _, ?_, sh1, by rw [e]; exact lit _, hv (by omega), Imp.refl _, fun _ => rfl⟩
    rw [e2, show rpV 3 nul ver flex = .i32 from rfl, rdP, Vz .i32 4 32 rfl rfl, e]; rfl
  by_cases h5 : kind = 5
  · subst h5
    have e : Xx 5 nul t = .lit (.int .u16 (IntKind.u16.wrap t.n)) := by simp [Xx]
    have e2 : Xu 5 flex (t.nul && decide (0 ≤ nul) && decide (nul ≤ ver)) p t = be 2 t.n := by simp [Xu, width]
    refine ⟨[Xx 5 nul t], _, ?_, sh1, by rw [e]; exact lit _, hv (by omega), Imp.refl _, fun _ => rfl⟩
    rw [e2, show rpV 5 nul ver flex = .u16 from rfl, rdP, Vz .u16 2 16 rfl rfl, e]; rfl
  by_cases h7 : kind = 7
  · subst h7
    have e : Xx 7 nul t = .agg ((XN t.s).map byteD) := by simp [Xx]
    have e2 : Xu 7 flex (t.nul && decide (0 ≤ nul) && decide (nul ≤ ver)) p t = XN t.s := by simp [Xu]
    refine ⟨(XN t.s).map byteD, _, ?_, ?_, ?_, hv (by omega), by rw [e]; exact imp_agg _, fun h => absurd rfl h⟩
    · rw [e2, show rpV 7 nul ver flex = .uuid from rfl, rdP, JI _ _ _ (VE _)]; rfl
    · rw [Jf, VE]; rfl
    · intro d hd
      simp only [List.mem_map] at hd
      obtain ⟨c, _, rfl⟩ := hd
      rfl
  by_cases hk8 : kind = 8
  · subst hk8
    have hs := hfit (.inl rfl)
    have hwh := UI hs
    refine ⟨[Xx 8 nul t], _, ?_, sh1, ?_, hv (by omega), Imp.refl _, fun _ => rfl⟩
    · by_cases hn : 0 ≤ nul
      · have hvv := h8 rfl hn
        have er : rpV 8 nul ver flex = (if flex then .cnstr else .nstr) := by simp [rpV, hn, hvv]
        rw [er]
        cases hb : t.nul with
        | true =>
          have e : Xx 8 nul t = .lit (.pointer none) := by simp [Xx, hn, hb]
          rw [e]
          cases flex
          · simp only [Xu, YF, hn, hvv]
            simp [rdP]
            rw [Vz .i16 2 16 rfl rfl]
            simp [JT]
          · simp only [Xu, YF, hn, hvv]
            have : XC (0 :: s) = some (0, s) := by have := Xz 0 s (by omega); rw [uvar0] at this; exact this
            simp [rdP, this]
        | false =>
          have e : Xx 8 nul t = .ptr (.lit (Ya4 t.s)) := by simp [Xx, hn, hb]
          rw [e]
          cases flex
          · simp only [Xu, YF]
            simp [rdP, hwh]
            rw [Vz .i16 2 16 rfl rfl]
            have hw : IntKind.i16.wrap (t.s.length : Int) = t.s.length := by rw [JT]; omega
            simp only [Option.bind_some, hw]
            rw [if_neg (by omega), Vf _ _ _ rfl]; rfl
          · simp only [Xu, YF]
            simp [rdP, hwh]
            rw [Xz _ _ (by omega)]
            simp only [Option.bind_some]
            rw [if_neg (by omega), Vf _ _ _ (by omega)]; rfl
      · have e : Xx 8 nul t = .lit (Ya4 t.s) := by simp [Xx, hn]
        have er : rpV 8 nul ver flex = (if flex then .cstr else .str) := by simp [rpV, hn]
        rw [e, er]
        cases flex
        · simp only [Xu, YF]
          simp [rdP, hwh, hn]
          rw [Vz .i16 2 16 rfl rfl]
          have hw : IntKind.i16.wrap (t.s.length : Int) = t.s.length := by rw [JT]; omega
          simp only [Option.bind_some, hw]
          rw [Vf _ _ _ rfl]; rfl
        · simp only [Xu, YF]
          simp [rdP, hwh, hn]
          rw [Xz _ _ (by omega)]
          simp only [Option.bind_some]
          rw [Vf _ _ _ (by omega)]; rfl
    · have : shDs [Xx 8 nul t] = shV 8 nul := sh1
      refine one _ ?_
      rw [← sh_width, Yg0]
      unfold shV
      split <;> first | rfl | skip
      repeat' split
      all_goals first | rfl | (exfalso; omega)
  by_cases hk9 : kind = 9
  · subst hk9
    have hs := hfit (.inr rfl)
    have hwh := UI hs
    by_cases hnv : 0 ≤ nul ∧ nul ≤ ver
    · have er : rpV 9 nul ver flex = (if flex then .cnbytes else .nbytes) := by simp [rpV, hnv.1, hnv.2]
      refine ⟨[Xx 9 nul t], _, ?_, sh1, ?_, ?_, Imp.refl _, fun _ => rfl⟩
      · rw [er]
        cases hb : t.nul with
        | true =>
          have e : Xx 9 nul t = .sl true [] := by simp [Xx, hnv.1, hb]
          rw [e]
          cases flex
          · simp only [Xu, YF, hnv.1, hnv.2]
            simp [rdP]
            rw [Vz .i32 4 32 rfl rfl]
            simp [IntKind.wrap_i32]
          · simp only [Xu, YF, hnv.1, hnv.2]
            have : XC (0 :: s) = some (0, s) := by have := Xz 0 s (by omega); rw [uvar0] at this; exact this
            simp [rdP, this]
        | false =>
          have e : Xx 9 nul t = .sl false (t.s.map byteD) := by simp [Xx, hnv.1, hb]
          rw [e]
          cases flex
          · simp only [Xu, YF]
            simp [rdP, hwh]
            rw [Vz .i32 4 32 rfl rfl]
            have hw : IntKind.i32.wrap (t.s.length : Int) = t.s.length := by rw [IntKind.wrap_i32]; omega
            simp only [Option.bind_some, hw]
            rw [if_neg (by omega), Vf _ _ _ rfl]; rfl
          · simp only [Xu, YF]
            simp [rdP, hwh]
            rw [Xz _ _ (by omega)]
            simp only [Option.bind_some]
            rw [if_neg (by omega), Vf _ _ _ (by omega)]; rfl
      · refine one _ ?_
        rw [← sh_width, Yg0]; simp [shV]
      · unfold Yj5; rw [if_neg (fun e => e.2 hnv)]
    · have er : rpV 9 nul ver flex = (if flex then .cbytes else .bytes) := by simp [rpV, hnv]
      have hnull : (t.nul && decide (0 ≤ nul) && decide (nul ≤ ver)) = false := by
        cases hb : t.nul with
        | false => rfl
        | true =>
          cases h1 : decide (0 ≤ nul) with
          | false => rfl
          | true => exact absurd ⟨of_decide_eq_true h1, hnul (of_decide_eq_true h1) hb⟩ hnv
      refine ⟨[.sq (t.s.map byteD)], .sq (t.s.map byteD), ?_, by simp [shDs, shD, shV], one _ rfl, ?_, Imp.refl _, fun _ => rfl⟩
      · rw [er, hnull]
        cases flex
        · simp only [Xu, YF]
          simp [rdP, hwh]
          rw [Vz .i32 4 32 rfl rfl]
          have hw : IntKind.i32.wrap (t.s.length : Int) = t.s.length := by rw [IntKind.wrap_i32]; omega
          simp only [Option.bind_some, hw]
          rw [if_neg (by omega), Vf _ _ _ rfl]; rfl
        · simp only [Xu, YF]
          simp [rdP, hwh]
          rw [Xz _ _ (by omega)]
          simp only [Option.bind_some]
          rw [if_neg (by omega), Vf _ _ _ (by omega)]; rfl
      · unfold Yj5
        rw [if_pos ⟨rfl, hnv⟩]
        exact ⟨rfl, rfl, false, rfl⟩
  · have e : Xx kind nul t = .lit (.int .i64 (IntKind.i64.wrap t.n)) := by simp [Xx, h0, h1, h2, h3, h5, h7, hk8, hk9]
    have hwd : width kind = 8 := by simp [width, h1, h2, h3, h5]
    have e2 : Xu kind flex (t.nul && decide (0 ≤ nul) && decide (nul ≤ ver)) p t = be 8 t.n := by simp [Xu, h0, h7, hk8, hk9, hk10, hwd]
    have er : rpV kind nul ver flex = .i64 := by simp [rpV, h0, h1, h2, h3, h5, h7, hk8, hk9]
    refine ⟨[Xx kind nul t], _, ?_, sh1, by rw [e]; exact lit _, hv hk9, Imp.refl _, fun _ => rfl⟩
    rw [e2, er, rdP, Vz .i64 8 64 rfl rfl, e]; rfl
end Go.Proofs.YtgjplodgdgaakaaGreatDoor

/- kbin.Uvarint at the seat (text printed by tools/uvar.py). -/
namespace Go.Proofs.YtgjplodgdgaakaaGreatDoor.Rdk
open Go Go.RowKit

set_option maxRecDepth 100000
section
variable {P : Program} {Q : Exit → Act → World → Prop} {N : Nat} {L : Sl} {w : World}
def Jmp (l N : Nat) (Lj : Sl) (Q : Exit → Act → World → Prop) (w0 : World) (X : Prop) : Exit → Act → World → Prop := Exit.jump l (fun a w => Kn N a Lj ∧ w = w0 ∧ X) Q
theorem wc_scope {c rest : Code} (l : Nat) (Lj : Sl) (X : Prop) (hf : findLabel c l = some rest) (h1 : WC c P (Jmp l N Lj Q w X) N L w) (h2 : X → WC rest P (Exit.jump l (fun _ _ => False) Q) N Lj w) : WC (.scope c) P Q N L w := by
  intro a k
  refine wp_scope_jumps l (fun a' w' => Kn N a' Lj ∧ w' = w ∧ X) (fun _ _ => 0) hf (h1 a k) (fun a' w' hJ => ?_)
  obtain ⟨hk, rfl, hx⟩ := hJ
  refine wp_mono (h2 hx a' hk) (fun e a'' w'' hq => ?_)
  cases e with
  | goto l' => exact hq.2.elim
  | _ => exact hq
theorem Yg7 {l : Nat} (h : QK (.goto l) Q N L w) : WC (.goto l) P Q N L w := fun a k => wp_goto (h a k)
theorem wc_label {l : Nat} (h : QK .normal Q N L w) : WC (.label l) P Q N L w := fun a k => wp_label (h a k)
theorem Yh1 {l : Nat} {Lj : Sl} {X : Prop} (hs : Sub Lj L) (hx : X) : QK (.goto l) (Jmp l N Lj Q w X) N L w := fun _ k => ⟨rfl, k.weaken hs, rfl, hx⟩
theorem Ud {l : Nat} {y : Code} (h : QK (.goto l) Q N L w) : QK (.goto l) (Thn P y Q) N L w := fun a k => h a k
theorem VJ {l : Nat} {J : Act → World → Prop} (h : QK .ret Q N L w) : QK .ret (Exit.jump l J Q) N L w := fun a k => h a k
theorem wl_shl {ops : Array Oper} {rest : List Oper} {d : Nat} {ty : TypeId} {pos : String} {aft : Array Edge} {x : Operand} {t u : TypeId} {kk yk : IntKind} {m s r : Int} (hx : ev L x = some (.int kk m)) (hd : Nat.blt d N = true) (h0 : 0 ≤ s) (h1 : s ≤ kk.bits) (hr : kk.wrap (m * 2 ^ s.toNat) = r) (h : WL rest P ops Q N ((d, .int kk r) :: L) w) :
    WL (⟨some d, .binOp .shl t x (.const (.int yk s)) u, ty, pos, aft, none⟩ :: rest) P ops Q N L w := by
  intro a k
  exact YS (o := ⟨some d, .binOp .shl t x (.const (.int yk s)) u, ty, pos, aft, none⟩) rfl (rn_shl k hx h0 h1 hr) (h _ (k.put _ hd))
end
theorem and127b (b : Nat) (h : b < 256) : bits .and .u8 (b : Int) 127 = ((b % 128 : Nat) : Int) := by
  have := (bits_nat .u8 8 (by decide) (fun n h0 h1 => by rw [IntKind.wrap_u8]; omega) b 127 (by omega) (by omega)).1
  rw [show ((127 : Nat) : Int) = 127 from rfl] at this
  rw [this, show (127 : Nat) = 2 ^ 7 - 1 from rfl, Nat.and_two_pow_sub_one_eq_mod]
theorem and128b : ∀ b : Nat, b < 256 → bits .and .u8 (b : Int) 128 = if b < 128 then 0 else 128 := by
  intro b h
  have := (bits_nat .u8 8 (by decide) (fun n h0 h1 => by rw [IntKind.wrap_u8]; omega) b 128 (by omega) (by omega)).1
  rw [show ((128 : Nat) : Int) = 128 from rfl] at this
  rw [this]
  have key : ∀ x : Fin 256, x.val &&& 128 = if x.val < 128 then 0 else 128 := by decide
  have := key ⟨b, h⟩
  simp only [] at this
  rw [this]
  split <;> rfl
theorem or32 (a x s : Nat) (ha : a < 2 ^ s) (ha2 : a < 4294967296) (hx : x * 2 ^ s < 4294967296) : bits .or .u32 (a : Int) ((x * 2 ^ s : Nat) : Int) = ((a + x * 2 ^ s : Nat) : Int) :=
  or_add .u32 32 (by decide) (fun n h0 h1 => by rw [IntKind.wrap_u32]; omega) a x s ha ha2 hx
theorem Uw (k : Nat) : uvarR k [] = none := by cases k <;> rfl
theorem cell_at {w : World} {sb o c : Nat} {s : List UInt8} (h : Jy w sb (.slice (some ⟨sb, o, none⟩) s.length c) s) {i : Nat} (hi : i < s.length) : w.cell? ⟨sb, o + i * 1, none⟩ = some (.int .u8 s[i].toNat) := by
  obtain ⟨o', e, hc⟩ := h.cell hi
  cases e; exact hc
def UE (s : List UInt8) (u n : Int) : Prop := match XC s with
  | some x => u = (x.1 : Int) ∧ ∃ m : Nat, n = (m : Int) ∧ 0 < m ∧ m ≤ s.length ∧ x.2 = s.drop m
  | none => n ≤ 0

theorem fn_uvarint (w : World) (sb : Nat) (a : Option Addr) (c : Nat) (s : List UInt8) (hsv : Jy w sb (.slice a s.length c) s) :
    Calls Tryz.prog 159 #[.slice a s.length c] w fun e w' => w' = w ∧ ∃ u n : Int, e = .returned (.tuple #[.int .u32 u, .int .i64 n]) ∧ UE s u n := by
  refine enter Tryz.func159 rfl Tryz.ntmps159 rfl ?_
  refine Yk (Yd (YB rfl rfl (YB rfl rfl (Ym (Yj ?_)))))
  refine wc_sub (L' := [(0, .slice a s.length c)]) ⟨rfl, trivial⟩ ?_
  refine wc_scope 0 [(5, .int .i64 0)] (XC s = none) rfl ?_ ?_
  · refine Yk (Yd (YB rfl rfl (Ym (Yj ?_))))
    refine Yk (Yd (YB rfl rfl (Ym (Yj ?_))))
    refine Yk (Yk (Yd ?_))
    refine ws rfl rfl ?_
    refine ws rfl rfl ?_
    refine ws rfl rfl ?_
    refine Ym (Yj ?_)
    cases s with
    | nil =>
      refine Yz rfl (by simp) (Yg7 (Ud (Yh1 ⟨rfl, trivial⟩ ?_)))
      simp only [XC, Xg, Uw]
    | cons b0 s =>
      have l0 := b0.toNat_lt
      refine YE rfl (by simp; omega) (Yi (Yj ?_))
      obtain ⟨o0, rfl, hc0⟩ := hsv.cell (i := 0) (by simp)
      simp only [List.getElem_cons_zero] at hc0
      refine Yk (Yd ?_)
      refine ws rfl rfl ?_
      refine YD (i := 0) rfl rfl es_bytes rfl (by simp) ?_
      refine Xs rfl to_u8 rfl hc0 ?_
      refine Vr (r := ((b0.toNat % 128 : Nat) : Int)) rfl rfl rfl (and127b _ l0) ?_
      refine YC .u32 (r := ((b0.toNat % 128 : Nat) : Int)) rfl (by kernel_rfl) (by kernel_rfl) rfl (by rw [IntKind.wrap_u32]; omega) ?_
      refine ws rfl rfl ?_
      refine Ym (Yj ?_)
      refine Yk (Yk (Yd ?_))
      refine ws rfl rfl ?_
      refine YD (i := 0) rfl rfl es_bytes rfl (by simp) ?_
      refine Xs rfl to_u8 rfl hc0 ?_
      by_cases n0 : b0.toNat < 128
      · refine Vr (r := 0) rfl rfl rfl (by rw [and128b _ l0, if_pos n0]) ?_
        refine ws rfl rfl ?_
        refine Ym (Yj (Yz rfl (by decide) (Yk (Yd ?_))))
        refine ws rfl rfl ?_
        refine ws rfl rfl ?_
        refine ws rfl rfl ?_
        refine Ym (Yj (Yn (Ye (VJ (UX rfl rfl rfl ⟨rfl, _, _, rfl, ?_⟩)))))
        have hu : XC (b0 :: s) = some (b0.toNat % 128, s) := by
          simp only [XC, Xg]
          simp [n0]
          omega
        unfold UE
        rw [hu]
        exact ⟨rfl, 1, rfl, by omega, by simp, rfl⟩
      refine Vr (r := 128) rfl rfl rfl (by rw [and128b _ l0, if_neg n0]) ?_
      refine ws rfl rfl ?_
      refine Ym (Yj (YE rfl (by decide) ?_))
      refine Yk (Yd ?_)
      refine ws rfl rfl ?_
      refine ws rfl rfl ?_
      refine ws rfl rfl ?_
      refine Ym (Yj ?_)
      cases s with
      | nil =>
        refine Yz rfl (by simp) (Yg7 (Ud (Yh1 ⟨rfl, trivial⟩ ?_)))
        simp only [XC, Xg, Uw]; simp [n0]
      | cons b1 s =>
        have l1 := b1.toNat_lt
        refine YE rfl (by simp; omega) (Yi (Yj ?_))
        have hc1 := cell_at hsv (i := 1) (by simp)
        simp only [List.getElem_cons_succ, List.getElem_cons_zero] at hc1
        refine Yk (Yd ?_)
        refine ws rfl rfl ?_
        refine ws rfl rfl ?_
        refine YD (i := 1) rfl rfl es_bytes rfl (by simp) ?_
        refine Xs rfl to_u8 rfl hc1 ?_
        refine Vr (r := ((b1.toNat % 128 : Nat) : Int)) rfl rfl rfl (and127b _ l1) ?_
        refine YC .u32 (r := ((b1.toNat % 128 : Nat) : Int)) rfl (by kernel_rfl) (by kernel_rfl) rfl (by rw [IntKind.wrap_u32]; omega) ?_
        refine wl_shl (r := ((b1.toNat % 128 * 2 ^ 7 : Nat) : Int)) rfl rfl (by decide) (by decide) (by rw [IntKind.wrap_u32]; simp; omega) ?_
        refine Yl0 (r := ((b0.toNat % 128 + b1.toNat % 128 * 2 ^ 7 : Nat) : Int)) rfl rfl rfl (or32 _ _ _ (by omega) (by omega) (by omega)) ?_
        refine ws rfl rfl ?_
        refine Ym (Yj ?_)
        refine Yk (Yk (Yd ?_))
        refine ws rfl rfl ?_
        refine YD (i := 1) rfl rfl es_bytes rfl (by simp) ?_
        refine Xs rfl to_u8 rfl hc1 ?_
        by_cases n1 : b1.toNat < 128
        · refine Vr (r := 0) rfl rfl rfl (by rw [and128b _ l1, if_pos n1]) ?_
          refine ws rfl rfl ?_
          refine Ym (Yj (Yz rfl (by decide) (Yk (Yd ?_))))
          refine ws rfl rfl ?_
          refine ws rfl rfl ?_
          refine ws rfl rfl ?_
          refine Ym (Yj (Yn (Ye (VJ (UX rfl rfl rfl ⟨rfl, _, _, rfl, ?_⟩)))))
          have hu : XC (b0 :: b1 :: s) = some (b0.toNat % 128 + b1.toNat % 128 * 2 ^ 7, s) := by
            simp only [XC, Xg]
            simp [n0, n1]
            omega
          unfold UE
          rw [hu]
          exact ⟨rfl, 2, rfl, by omega, by simp, rfl⟩
        refine Vr (r := 128) rfl rfl rfl (by rw [and128b _ l1, if_neg n1]) ?_
        refine ws rfl rfl ?_
        refine Ym (Yj (YE rfl (by decide) ?_))
        refine Yk (Yd ?_)
        refine ws rfl rfl ?_
        refine ws rfl rfl ?_
        refine ws rfl rfl ?_
        refine Ym (Yj ?_)
        cases s with
        | nil =>
          refine Yz rfl (by simp) (Yg7 (Ud (Yh1 ⟨rfl, trivial⟩ ?_)))
          simp only [XC, Xg, Uw]; simp [n0, n1]
        | cons b2 s =>
          have l2 := b2.toNat_lt
          refine YE rfl (by simp; omega) (Yi (Yj ?_))
          have hc2 := cell_at hsv (i := 2) (by simp)
          simp only [List.getElem_cons_succ, List.getElem_cons_zero] at hc2
          refine Yk (Yd ?_)
          refine ws rfl rfl ?_
          refine ws rfl rfl ?_
          refine YD (i := 2) rfl rfl es_bytes rfl (by simp) ?_
          refine Xs rfl to_u8 rfl hc2 ?_
          refine Vr (r := ((b2.toNat % 128 : Nat) : Int)) rfl rfl rfl (and127b _ l2) ?_
          refine YC .u32 (r := ((b2.toNat % 128 : Nat) : Int)) rfl (by kernel_rfl) (by kernel_rfl) rfl (by rw [IntKind.wrap_u32]; omega) ?_
          refine wl_shl (r := ((b2.toNat % 128 * 2 ^ 14 : Nat) : Int)) rfl rfl (by decide) (by decide) (by rw [IntKind.wrap_u32]; simp; omega) ?_
          refine Yl0 (r := ((b0.toNat % 128 + b1.toNat % 128 * 2 ^ 7 + b2.toNat % 128 * 2 ^ 14 : Nat) : Int)) rfl rfl rfl (or32 _ _ _ (by omega) (by omega) (by omega)) ?_
          refine ws rfl rfl ?_
          refine Ym (Yj ?_)
          refine Yk (Yk (Yd ?_))
          refine ws rfl rfl ?_
          refine YD (i := 2) rfl rfl es_bytes rfl (by simp) ?_
          refine Xs rfl to_u8 rfl hc2 ?_
          by_cases n2 : b2.toNat < 128
          · refine Vr (r := 0) rfl rfl rfl (by rw [and128b _ l2, if_pos n2]) ?_
            refine ws rfl rfl ?_
            refine Ym (Yj (Yz rfl (by decide) (Yk (Yd ?_))))
            refine ws rfl rfl ?_
            refine ws rfl rfl ?_
            refine ws rfl rfl ?_
            refine Ym (Yj (Yn (Ye (VJ (UX rfl rfl rfl ⟨rfl, _, _, rfl, ?_⟩)))))
            have hu : XC (b0 :: b1 :: b2 :: s) = some (b0.toNat % 128 + b1.toNat % 128 * 2 ^ 7 + b2.toNat % 128 * 2 ^ 14, s) := by
              simp only [XC, Xg]
              simp [n0, n1, n2]
              omega
            unfold UE
            rw [hu]
            exact ⟨rfl, 3, rfl, by omega, by simp, rfl⟩
          refine Vr (r := 128) rfl rfl rfl (by rw [and128b _ l2, if_neg n2]) ?_
          refine ws rfl rfl ?_
          refine Ym (Yj (YE rfl (by decide) ?_))
          refine Yk (Yd ?_)
          refine ws rfl rfl ?_
          refine ws rfl rfl ?_
          refine ws rfl rfl ?_
          refine Ym (Yj ?_)
          cases s with
          | nil =>
            refine Yz rfl (by simp) (Yg7 (Ud (Yh1 ⟨rfl, trivial⟩ ?_)))
            simp only [XC, Xg, Uw]; simp [n0, n1, n2]
          | cons b3 s =>
            have l3 := b3.toNat_lt
            refine YE rfl (by simp; omega) (Yi (Yj ?_))
            have hc3 := cell_at hsv (i := 3) (by simp)
            simp only [List.getElem_cons_succ, List.getElem_cons_zero] at hc3
            refine Yk (Yd ?_)
            refine ws rfl rfl ?_
            refine ws rfl rfl ?_
            refine YD (i := 3) rfl rfl es_bytes rfl (by simp) ?_
            refine Xs rfl to_u8 rfl hc3 ?_
            refine Vr (r := ((b3.toNat % 128 : Nat) : Int)) rfl rfl rfl (and127b _ l3) ?_
            refine YC .u32 (r := ((b3.toNat % 128 : Nat) : Int)) rfl (by kernel_rfl) (by kernel_rfl) rfl (by rw [IntKind.wrap_u32]; omega) ?_
            refine wl_shl (r := ((b3.toNat % 128 * 2 ^ 21 : Nat) : Int)) rfl rfl (by decide) (by decide) (by rw [IntKind.wrap_u32]; simp; omega) ?_
            refine Yl0 (r := ((b0.toNat % 128 + b1.toNat % 128 * 2 ^ 7 + b2.toNat % 128 * 2 ^ 14 + b3.toNat % 128 * 2 ^ 21 : Nat) : Int)) rfl rfl rfl (or32 _ _ _ (by omega) (by omega) (by omega)) ?_
            refine ws rfl rfl ?_
            refine Ym (Yj ?_)
            refine Yk (Yk (Yd ?_))
            refine ws rfl rfl ?_
            refine YD (i := 3) rfl rfl es_bytes rfl (by simp) ?_
            refine Xs rfl to_u8 rfl hc3 ?_
            by_cases n3 : b3.toNat < 128
            · refine Vr (r := 0) rfl rfl rfl (by rw [and128b _ l3, if_pos n3]) ?_
              refine ws rfl rfl ?_
              refine Ym (Yj (Yz rfl (by decide) (Yk (Yd ?_))))
              refine ws rfl rfl ?_
              refine ws rfl rfl ?_
              refine ws rfl rfl ?_
              refine Ym (Yj (Yn (Ye (VJ (UX rfl rfl rfl ⟨rfl, _, _, rfl, ?_⟩)))))
              have hu : XC (b0 :: b1 :: b2 :: b3 :: s) = some (b0.toNat % 128 + b1.toNat % 128 * 2 ^ 7 + b2.toNat % 128 * 2 ^ 14 + b3.toNat % 128 * 2 ^ 21, s) := by
                simp only [XC, Xg]
                simp [n0, n1, n2, n3]
                omega
              unfold UE
              rw [hu]
              exact ⟨rfl, 4, rfl, by omega, by simp, rfl⟩
            refine Vr (r := 128) rfl rfl rfl (by rw [and128b _ l3, if_neg n3]) ?_
            refine ws rfl rfl ?_
            refine Ym (Yj (YE rfl (by decide) ?_))
            refine Yk (Yd ?_)
            refine ws rfl rfl ?_
            refine ws rfl rfl ?_
            refine ws rfl rfl ?_
            refine Ym (Yj ?_)
            cases s with
            | nil =>
              refine Yz rfl (by simp) (Yg7 (Ud (Yh1 ⟨rfl, trivial⟩ ?_)))
              simp only [XC, Xg, Uw]; simp [n0, n1, n2, n3]
            | cons b4 s =>
              have l4 := b4.toNat_lt
              refine YE rfl (by simp; omega) (Yi (Yj ?_))
              have hc4 := cell_at hsv (i := 4) (by simp)
              simp only [List.getElem_cons_succ, List.getElem_cons_zero] at hc4
              refine Yk (Yd ?_)
              refine ws rfl rfl ?_
              refine ws rfl rfl ?_
              refine YD (i := 4) rfl rfl es_bytes rfl (by simp) ?_
              refine Xs rfl to_u8 rfl hc4 ?_
              refine YC .u32 (r := (b4.toNat : Int)) rfl (by kernel_rfl) (by kernel_rfl) rfl (by rw [IntKind.wrap_u32]; omega) ?_
              refine wl_shl (r := ((b4.toNat % 16 * 2 ^ 28 : Nat) : Int)) rfl rfl (by decide) (by decide) (by rw [IntKind.wrap_u32]; simp; omega) ?_
              refine Yl0 (r := ((b0.toNat % 128 + b1.toNat % 128 * 2 ^ 7 + b2.toNat % 128 * 2 ^ 14 + b3.toNat % 128 * 2 ^ 21 + b4.toNat % 16 * 2 ^ 28 : Nat) : Int)) rfl rfl rfl (or32 _ _ _ (by omega) (by omega) (by omega)) ?_
              refine ws rfl rfl ?_
              refine Ym (Yj ?_)
              refine Yk (Yk (Yd ?_))
              refine ws rfl rfl ?_
              refine YD (i := 4) rfl rfl es_bytes rfl (by simp) ?_
              refine Xs rfl to_u8 rfl hc4 ?_
              refine ws rfl rfl ?_
              refine Ym (Yj ?_)
              by_cases n4 : b4.toNat ≤ 15
              · refine Yz rfl (by simp; omega) (Yk (Yd ?_))
                refine ws rfl rfl ?_
                refine ws rfl rfl ?_
                refine ws rfl rfl ?_
                refine Ym (Yj (Yn (Ye (VJ (UX rfl rfl rfl ⟨rfl, _, _, rfl, ?_⟩)))))
                have hu : XC (b0 :: b1 :: b2 :: b3 :: b4 :: s) = some (b0.toNat % 128 + b1.toNat % 128 * 2 ^ 7 + b2.toNat % 128 * 2 ^ 14 + b3.toNat % 128 * 2 ^ 21 + b4.toNat % 16 * 2 ^ 28, s) := by
                  simp only [XC, Xg]
                  simp [n0, n1, n2, n3, n4]
                  omega
                unfold UE
                rw [hu]
                exact ⟨rfl, 5, rfl, by omega, by simp, rfl⟩
              · refine YE rfl (by simp; omega) (Yi (Yj ?_))
                refine Yk (Yd (YB rfl rfl (Ym (Yj ?_))))
                refine Yk (wc_label (Yj ?_))
                refine Yk (Yd ?_)
                refine ws rfl rfl ?_
                refine ws rfl rfl ?_
                refine ws rfl rfl ?_
                refine Ym (Yj (Yn (VJ (UX rfl rfl rfl ⟨rfl, _, _, rfl, ?_⟩))))
                have hu : XC (b0 :: b1 :: b2 :: b3 :: b4 :: s) = none := by simp only [XC, Xg]; simp [n0, n1, n2, n3, n4]
                unfold UE
                rw [hu]
                show (-5 : Int) ≤ 0; decide
  · intro hu
    refine Yk (Yi (Yj ?_))
    refine Yk (Yd ?_)
    refine ws rfl rfl ?_
    refine ws rfl rfl ?_
    refine ws rfl rfl ?_
    refine Ym (Yj (Yn (VJ (UX rfl rfl rfl ⟨rfl, _, _, rfl, ?_⟩))))
    unfold UE
    rw [hu]
    exact Int.le_refl 0
end Go.Proofs.YtgjplodgdgaakaaGreatDoor.Rdk

/- The package's reader at the seat: counts, texts. -/
namespace Go.Proofs.YtgjplodgdgaakaaGreatDoor.Rdk
open Go Go.RowKit

set_option maxRecDepth 100000
theorem foldl_push (ns : List UInt8) : ∀ (s : List UInt8), (ns.map fun c => (c.toNat : Int)).foldl (fun (r : ByteArray) n => r.push (UInt8.ofNat n.toNat)) ⟨s.toArray⟩ = ⟨(s ++ ns).toArray⟩ := by
  induction ns with
  | nil => intro s; simp
  | cons c ns ih =>
    intro s
    simp only [List.map_cons, List.foldl_cons]
    have : (ByteArray.mk s.toArray).push (UInt8.ofNat (c.toNat : Int).toNat) = ⟨(s ++ [c]).toArray⟩ := by
      simp [ByteArray.push]
    rw [this, ih]
    simp
section
variable {P : Program} {ops : Array Oper} {Q : Exit → Act → World → Prop} {N : Nat} {rest : List Oper} {L : Sl} {w : World} {d : Nat} {ty : TypeId} {pos : String} {aft : Array Edge}
theorem wl_extract {x : Operand} {i : Nat} {cs : Array Value} {v : Value} (hx : ev L x = some (.tuple cs)) (hv : cs[i]? = some v) (hd : Nat.blt d N = true) (h : WL rest P ops Q N ((d, v) :: L) w) : WL (⟨some d, .extract x i, ty, pos, aft, none⟩ :: rest) P ops Q N L w := by
  intro a k
  refine YS (o := ⟨some d, .extract x i, ty, pos, aft, none⟩) rfl ?_ (h _ (k.put _ hd))
  simp [execOp, k.eval hx, Instr.extract, hv]
theorem Ye4 {x : Operand} {s t : TypeId} {sb : Nat} {v : Value} {bs : List UInt8} (hx : ev L x = some v) (hv : Jy w sb v bs) (hs : (match P.underlying s with | some (.slice e) => (match P.underlying e with | some (.int .u8) => true | _ => false) | _ => false) = true) (ht : (match P.underlying t with | some .string => true | _ => false) = true) (hd : Nat.blt d N = true)
    (h : WL rest P ops Q N ((d, Ya4 bs) :: L) w) : WL (⟨some d, .convert s t x, ty, pos, aft, none⟩ :: rest) P ops Q N L w := by
  intro a k
  refine YS (o := ⟨some d, .convert s t x, ty, pos, aft, none⟩) (v := Ya4 bs) (w' := w) rfl ?_ (h _ (k.put _ hd))
  split at hs
  · rename_i e he
    split at hs
    · rename_i he8
      split at ht
      · rename_i hst
        have key : (Conv.bytesToString v).run P w = .ok (Ya4 bs) w := by
          rcases hv with ⟨rfl, rfl⟩ | ⟨o, c, rfl, hle, hcs⟩
          · simp [Conv.bytesToString, Ya4]; rfl
          · have hl := run_loadCells_list (P := P) w ⟨sb, o, none⟩ (bv bs) (fun j v e => by rw [YM _ _ rfl]; exact hcs.cell e)
            rw [bv_len] at hl
            have hb : bv bs = (bs.map fun c => (c.toNat : Int)).map (Value.int .u8) := by simp [bv]
            rw [hb] at hl
            rw [run_bytesToString w ⟨sb, o, none⟩ bs.length c _ hl]
            have := foldl_push bs []
            simp only [List.nil_append] at this
            rw [Ya4, ← this]; rfl
        obtain ⟨a', l', c', rfl⟩ : ∃ a' l' c', v = .slice a' l' c' := by
          rcases hv with ⟨rfl, _⟩ | ⟨o, c, rfl, _⟩ <;> exact ⟨_, _, _, rfl⟩
        simp only [execOp, k.eval hx, Sem.run_bind, run_convert_bytes_string w s t e a' l' c' he he8 hst, key, Result.andThen_ok, Sem.run_pure]
      · cases ht
    · cases hs
  · cases hs
end
theorem uvarR_lt : ∀ (k : Nat) (s : List UInt8) (x : Nat × List UInt8), uvarR (k + 1) s = some x → x.1 < 16 * 128 ^ k ∧ x.2.length ≤ s.length
  | k, [], x, h => by rw [Uw] at h; cases h
  | 0, c :: r, x, h => by
    rw [Xg, if_pos rfl] at h
    split at h
    · cases h; exact ⟨by simp; omega, by simp⟩
    · cases h
  | k + 1, c :: r, x, h => by
    rw [Xg, if_neg (by omega)] at h
    have hp : 1 ≤ 128 ^ k := Nat.pow_pos (by omega)
    split at h
    · cases h; exact ⟨by simp only [Nat.pow_succ]; omega, by simp⟩
    · split at h
      · rename_i n r' hr
        cases h
        obtain ⟨h1, h2⟩ := uvarR_lt k r (n, r') hr
        have := c.toNat_lt
        simp only [] at h1 h2 ⊢
        exact ⟨by simp only [Nat.pow_succ]; omega, by simp; omega⟩
      · cases h
theorem uvarP_lt {s : List UInt8} {x : Nat × List UInt8} (h : XC s = some x) : x.1 < 4294967296 ∧ x.2.length ≤ s.length := by
  have := uvarR_lt 4 s x h
  exact ⟨by omega, this.2⟩
def UvRel (st : Option (List UInt8)) (u : Nat) (st' : Option (List UInt8)) : Prop := u < 4294967296 ∧ match st with
  | none => st' = none
  | some s => match XC s with
    | some x => st' = some x.2 ∧ u = x.1
    | none => st' = none
theorem Ym1 (w : World) (rb sb : Nat) (st : Option (List UInt8)) (hr : Rdr w rb sb st) (hne : rb ≠ sb) :
    Calls Tryz.prog 149 #[.pointer (some ⟨rb, 0, none⟩)] w fun e w' => ∃ (u : Nat) (st' : Option (List UInt8)), e = .returned (.int .u32 (u : Int)) ∧ Chg (· = rb) w w' ∧ Rdr w' rb sb st' ∧ UvRel st u st' := by
  obtain ⟨a, c, s, e, hb, hle, hlim, hsv, hst⟩ := hr.view
  refine enter Tryz.func149 rfl Tryz.ntmps149 rfl ?_
  refine Yk (Yd (YB rfl rfl (Ym (Yj ?_))))
  refine Yk (Yd ?_)
  refine ws rfl rfl ?_
  refine ws rfl rfl ?_
  refine ws rfl rfl ?_
  refine Yv rfl to_bytes rfl hb rfl ?_
  refine Yu rfl (by kernel_rfl) rfl ((fn_uvarint w sb a c s hsv).mono ?_)
  rintro en w' ⟨rfl, u, n, rfl, hrel⟩
  refine ⟨_, rfl, ?_⟩
  refine Xy rfl rfl ?_
  refine wl_extract rfl rfl rfl ?_
  refine wl_extract rfl rfl rfl ?_
  refine ws rfl rfl ?_
  refine ws rfl rfl ?_
  refine Ym (Yj ?_)
  refine Yk (Yk (Yd ?_))
  refine ws rfl rfl ?_
  refine ws rfl rfl ?_
  refine Ym (Yj ?_)
  unfold UE at hrel
  cases hp : XC s with
  | none =>
    rw [hp] at hrel
    simp only [] at hrel
    refine Yz rfl (by simpa using hrel) ?_
    refine Yk (Yd ?_)
    refine ws rfl rfl ?_
    refine ws rfl rfl ?_
    refine ws rfl rfl ?_
    refine YJ rfl rfl to_bool rfl hb rfl (fun w1 hb1 g1 _ => ?_)
    refine Ym (Yj ?_)
    refine Yk (Yd ?_)
    refine ws rfl rfl ?_
    refine ws rfl rfl ?_
    refine ws rfl rfl ?_
    refine YJ rfl rfl to_bytes rfl hb1 rfl (fun w2 hb2 g2 _ => ?_)
    refine Ym (Yj ?_)
    refine Yk (Yd ?_)
    refine ws rfl rfl ?_
    refine Ym (Yj (Yn (Ye (Yt rfl rfl ?_))))
    refine ⟨0, none, rfl, (Chg.grown g1).trans (Chg.grown g2), ⟨e, hb2⟩, by decide, ?_⟩
    rcases hst with ⟨rfl, _⟩ | rfl
    · rfl
    · simp only [hp]
  | some x =>
    rw [hp] at hrel
    simp only [] at hrel
    obtain ⟨rfl, m, rfl, hm0, hm, hx2⟩ := hrel
    obtain rfl : st = some s := by
      rcases hst with ⟨_, rfl, _⟩ | h
      · simp at hm; omega
      · exact h
    refine YE rfl (by simp; omega) (Yi (Yj (Yk (Yd ?_))))
    refine ws rfl rfl ?_
    refine ws rfl rfl ?_
    refine ws rfl rfl ?_
    refine ws rfl rfl ?_
    refine Yv rfl to_bytes rfl hb rfl ?_
    refine ws rfl rfl ?_
    refine UA (m := m) rfl rfl es_bytes rfl hm ?_
    refine ws rfl rfl ?_
    refine ws rfl rfl ?_
    refine YJ rfl rfl to_bytes rfl hb rfl (fun w1 hb1 g1 _ => ?_)
    refine Ym (Yj (Yk (Yd ?_)))
    refine ws rfl rfl ?_
    refine ws rfl rfl ?_
    refine Ym (Yj (Yn (Yt rfl rfl ?_)))
    have hg := Chg.grown g1
    refine ⟨x.1, some (s.drop m), rfl, hg, ((hsv.drop hm).chg hg (fun e => hne e.symm)).rdr hb1 (by simp; omega), (uvarP_lt hp).1, ?_⟩
    simp only [hp, hx2, and_self]
end Go.Proofs.YtgjplodgdgaakaaGreatDoor.Rdk

/- The package's reader at the seat: counts, texts, octets (text printed by tools/lens.py). -/
namespace Go.Proofs.YtgjplodgdgaakaaGreatDoor.Rdk
open Go Go.RowKit

set_option maxRecDepth 100000
def IntRel (k : IntKind) (n : Nat) (st : Option (List UInt8)) (m : Int) (st' : Option (List UInt8)) : Prop := match st with
  | none => st' = none
  | some s => match Ye1 k n s with
    | some x => st' = some x.2 ∧ m = x.1
    | none => st' = none
theorem Yf5 {P : Program} {f : Nat} {p : Rp} (h : RdC P f p) (k : IntKind) (n : Nat) (hp : ∀ s, rdP p s = (Ye1 k n s).map fun x => ([.lit (.int k x.1)], x.2)) (hsh : shR p = [.int k]) (w : World) (rb sb lo : Nat) (st : Option (List UInt8)) (hr : Rdr w rb sb st) (h1 : rb < lo) (h2 : sb < lo) (h3 : lo ≤ w.heap.size) (h4 : rb ≠ sb) :
    Calls P f #[.pointer (some ⟨rb, 0, none⟩)] w fun e w' => ∃ m st', e = .returned (.int k m) ∧ k.wrap m = m ∧ Chg (· = rb) w w' ∧ Rdr w' rb sb st' ∧ IntRel k n st m st' := by
  refine (h w rb sb lo st hr h1 h2 h3 h4).mono (fun e w' he => ?_)
  obtain ⟨v, nd, st', rfl, hc, hr', hrep, hall, hone, hrel⟩ := he
  have hv1 := hone (by rw [hsh]; rfl)
  have hlist : v.cells.toList = [v] := by rw [hv1]
  rw [hlist] at hrep
  have hck := Yk4 _ _ hrep 0 (.int k) v (by rw [hrel.1, hsh]; rfl) rfl
  obtain ⟨m, rfl, hwr⟩ := hck
  refine ⟨m, st', rfl, hwr, hc, hr', ?_⟩
  have h3 := hrel.2.2
  cases st with
  | none => exact h3
  | some s =>
    simp only [hp] at h3
    simp only [IntRel]
    cases hx : Ye1 k n s with
    | none => rw [hx] at h3; exact h3
    | some x =>
      rw [hx] at h3
      simp only [Option.map_some] at h3
      obtain ⟨e1, rfl⟩ := h3
      simp only [YX, Rep] at hrep
      obtain ⟨c1, c2, e2, rfl, rfl⟩ := hrep
      simp only [List.append_nil, List.cons.injEq, Value.int.injEq, true_and, and_true] at e2
      exact ⟨e1, e2⟩
/-- A count ahead of it is held against what lies ahead. -/
def preP (c : Bool) (s : List UInt8) : Option (Int × List UInt8) := if c then (XC s).map fun x => (IntKind.i32.wrap (IntKind.i32.wrap x.1 - 1), x.2) else Ye1 .i32 4 s
def Yf4 (c : Bool) (st : Option (List UInt8)) (m : Int) (st' : Option (List UInt8)) : Prop := match st with
  | none => st' = none
  | some s => match preP c s with
    | some x => st' = some x.2 ∧ m = x.1
    | none => st' = none
theorem len_fail {X : Prop} {c : Bool} {st st1 : Option (List UInt8)} {m l : Int} {s1 : List UInt8} (h : Yf4 c st m st1) (hv : (st1 = none ∧ s1 = [] ∧ X) ∨ st1 = some s1) (hlt : (s1.length : Int) < m) : Uq c st l none := by
  unfold Uq
  unfold Yf4 at h
  cases st with
  | none => rfl
  | some s =>
    simp only [] at h ⊢
    have e : lenP c s = (preP c s).bind fun x => if (x.2.length : Int) < x.1 then none else some x := rfl
    rw [e]
    cases hx : preP c s with
    | none => simp
    | some x =>
      rw [hx] at h
      obtain ⟨rfl, rfl⟩ := h
      rcases hv with ⟨hv, _⟩ | hv
      · cases hv
      · simp only [Option.some.injEq] at hv
        subst hv
        simp only [Option.bind_some]
        rw [if_pos hlt]
        trivial
theorem len_ok {X : Prop} {c : Bool} {st st1 : Option (List UInt8)} {m : Int} {s1 : List UInt8} (h : Yf4 c st m st1) (hv : (st1 = none ∧ s1 = [] ∧ X) ∨ st1 = some s1) (hlt : ¬ (s1.length : Int) < m) : Uq c st m st1 := by
  unfold Uq
  unfold Yf4 at h
  cases st with
  | none => exact h
  | some s =>
    simp only [] at h ⊢
    have e : lenP c s = (preP c s).bind fun x => if (x.2.length : Int) < x.1 then none else some x := rfl
    rw [e]
    cases hx : preP c s with
    | none => rw [hx] at h; exact h
    | some x =>
      rw [hx] at h
      obtain ⟨rfl, rfl⟩ := h
      rcases hv with ⟨hv, _⟩ | hv
      · cases hv
      · simp only [Option.some.injEq] at hv
        subst hv
        simp only [Option.bind_some]
        rw [if_neg hlt]
        exact ⟨rfl, rfl⟩

theorem len_ArrayLen : LenC Tryz.prog 116 false := by
  intro w rb sb lo st hr h1 h2 h3 h4
  refine enter Tryz.func116 rfl Tryz.ntmps116 rfl ?_
  refine Yk (Yd (YB rfl rfl (Ym (Yj ?_))))
  refine Yk (Yd ?_)
  refine ws rfl rfl ?_
  refine Yu rfl (by kernel_rfl) rfl ((Yf5 rd_Int32 .i32 4 (fun s => rfl) rfl w rb sb lo st hr h1 h2 h3 h4).mono ?_)
  rintro en w1 ⟨m, st1, rfl, hwr, hc1, hr1, hrel⟩
  refine ⟨_, rfl, ?_⟩
  refine ws rfl rfl ?_
  refine Ym (Yj ?_)
  have hs1 := hc1.size
  have hpre : Yf4 false st m st1 := by
    cases st with
    | none => exact hrel
    | some s => exact hrel
  have hrange : IntKind.i64.wrap m = m := by rw [IntKind.wrap_i32] at hwr; rw [IntKind.wrap_i64]; omega
  obtain ⟨a, c, s1, e, hb, hle, hlim, hsv, hst⟩ := hr1.view
  refine Yk (Yk (Yd ?_))
  refine ws rfl rfl ?_
  refine ws rfl rfl ?_
  refine ws rfl rfl ?_
  refine Yv rfl to_bytes rfl hb rfl ?_
  refine ws rfl rfl ?_
  refine ws rfl rfl ?_
  refine YC .i64 rfl (by kernel_rfl) (by kernel_rfl) rfl hrange ?_
  refine ws rfl rfl ?_
  refine Ym (Yj ?_)
  refine VG rfl (fun hc => ?_) (fun hc => ?_)
  · refine Yk (Yd ?_)
    refine ws rfl rfl ?_
    refine ws rfl rfl ?_
    refine ws rfl rfl ?_
    refine YJ rfl rfl to_bool rfl hb rfl (fun w1 hb1 g1 _ => ?_)
    refine Ym (Yj ?_)
    refine Yk (Yd ?_)
    refine ws rfl rfl ?_
    refine ws rfl rfl ?_
    refine ws rfl rfl ?_
    refine YJ rfl rfl to_bytes rfl hb1 rfl (fun w2 hb2 g2 _ => ?_)
    refine Ym (Yj ?_)
    refine Yk (Yd ?_)
    refine ws rfl rfl ?_
    refine Ym (Yj (Yn (Ye (Yt rfl rfl ?_))))
    exact ⟨0, none, rfl, hc1.trans ((Chg.grown g1).trans (Chg.grown g2)), ⟨e, hb2⟩, len_fail hpre hst (by simpa using hc)⟩
  · refine Yi (Yj (Yk (Yd ?_)))
    refine ws rfl rfl ?_
    refine ws rfl rfl ?_
    exact Ym (Yj (Yn (Yt rfl rfl ⟨_, st1, rfl, hc1, hr1, len_ok hpre hst (by simpa using hc)⟩)))
theorem len_CompactArrayLen : LenC Tryz.prog 115 true := by
  intro w rb sb lo st hr h1 h2 h3 h4
  refine enter Tryz.func115 rfl Tryz.ntmps115 rfl ?_
  refine Yk (Yd (YB rfl rfl (Ym (Yj ?_))))
  refine Yk (Yd ?_)
  refine ws rfl rfl ?_
  refine Yu rfl (by kernel_rfl) rfl ((Ym1 w rb sb st hr h4).mono ?_)
  rintro en w1 ⟨u, st1, rfl, hc1, hr1, hrel⟩
  refine ⟨_, rfl, ?_⟩
  refine YC .i32 (r := IntKind.i32.wrap u) rfl (by kernel_rfl) (by kernel_rfl) rfl rfl ?_
  refine UK (r := IntKind.i32.wrap (IntKind.i32.wrap u - 1)) rfl rfl rfl rfl ?_
  refine ws rfl rfl ?_
  refine Ym (Yj ?_)
  have hs1 := hc1.size
  have hpre : Yf4 true st (IntKind.i32.wrap (IntKind.i32.wrap u - 1)) st1 := by
    cases st with
    | none => exact hrel.2
    | some s =>
      have h5 := hrel.2
      simp only [Yf4, preP, if_true] at h5 ⊢
      cases hx : XC s with
      | none => rw [hx] at h5; exact h5
      | some x => rw [hx] at h5; obtain ⟨rfl, rfl⟩ := h5; exact ⟨rfl, rfl⟩
  have hrange : IntKind.i64.wrap (IntKind.i32.wrap (IntKind.i32.wrap u - 1)) = IntKind.i32.wrap (IntKind.i32.wrap u - 1) := by simp only [IntKind.wrap_i32]; rw [IntKind.wrap_i64]; omega
  obtain ⟨a, c, s1, e, hb, hle, hlim, hsv, hst⟩ := hr1.view
  refine Yk (Yk (Yd ?_))
  refine ws rfl rfl ?_
  refine ws rfl rfl ?_
  refine ws rfl rfl ?_
  refine Yv rfl to_bytes rfl hb rfl ?_
  refine ws rfl rfl ?_
  refine ws rfl rfl ?_
  refine YC .i64 rfl (by kernel_rfl) (by kernel_rfl) rfl hrange ?_
  refine ws rfl rfl ?_
  refine Ym (Yj ?_)
  refine VG rfl (fun hc => ?_) (fun hc => ?_)
  · refine Yk (Yd ?_)
    refine ws rfl rfl ?_
    refine ws rfl rfl ?_
    refine ws rfl rfl ?_
    refine YJ rfl rfl to_bool rfl hb rfl (fun w1 hb1 g1 _ => ?_)
    refine Ym (Yj ?_)
    refine Yk (Yd ?_)
    refine ws rfl rfl ?_
    refine ws rfl rfl ?_
    refine ws rfl rfl ?_
    refine YJ rfl rfl to_bytes rfl hb1 rfl (fun w2 hb2 g2 _ => ?_)
    refine Ym (Yj ?_)
    refine Yk (Yd ?_)
    refine ws rfl rfl ?_
    refine Ym (Yj (Yn (Ye (Yt rfl rfl ?_))))
    exact ⟨0, none, rfl, hc1.trans ((Chg.grown g1).trans (Chg.grown g2)), ⟨e, hb2⟩, len_fail hpre hst (by simpa using hc)⟩
  · refine Yi (Yj (Yk (Yd ?_)))
    refine ws rfl rfl ?_
    refine ws rfl rfl ?_
    exact Ym (Yj (Yn (Yt rfl rfl ⟨_, st1, rfl, hc1, hr1, len_ok hpre hst (by simpa using hc)⟩)))

theorem bytes_ty : (match Tryz.prog.underlying 24 with | some (.slice e) => (match Tryz.prog.underlying e with | some (.int .u8) => true | _ => false) | _ => false) = true := by kernel_rfl
theorem str_ty : (match Tryz.prog.underlying 9 with | some .string => true | _ => false) = true := by kernel_rfl
/-- The count ahead of a text. -/
def cntP (c : Bool) (k : IntKind) (n : Nat) (s : List UInt8) : Option (Int × List UInt8) := if c then (XC s).map fun x => ((x.1 : Int) - 1, x.2) else Ye1 k n s
def Up (c : Bool) (k : IntKind) (n : Nat) (st : Option (List UInt8)) (m : Int) (st' : Option (List UInt8)) : Prop := match st with
  | none => st' = none
  | some s => match cntP c k n s with
    | some x => st' = some x.2 ∧ m = x.1
    | none => st' = none
theorem cnt_i {k : IntKind} {n : Nat} {st st' : Option (List UInt8)} {m : Int} (h : IntRel k n st m st') : Up false k n st m st' := by
  cases st with
  | none => exact h
  | some s => exact h
theorem cnt_u {k : IntKind} {n : Nat} {st st' : Option (List UInt8)} {u : Nat} (h : UvRel st u st') : Up true k n st ((u : Int) - 1) st' := by
  have h2 := h.2
  cases st with
  | none => exact h2
  | some s =>
    simp only [Up, cntP, if_true] at h2 ⊢
    cases hx : XC s with
    | none => rw [hx] at h2; exact h2
    | some x => rw [hx] at h2; obtain ⟨rfl, rfl⟩ := h2; exact ⟨rfl, rfl⟩
def Yn3 (c : Bool) (k : IntKind) (n : Nat) (st : Option (List UInt8)) (s1 : List UInt8) (st2 : Option (List UInt8)) : Prop := match st with
  | none => st2 = none
  | some s => match (cntP c k n s).bind fun x => Uk x.1 x.2 with
    | some y => st2 = some y.2 ∧ s1 = y.1
    | none => st2 = none
theorem Ye6 {c : Bool} {k : IntKind} {n : Nat} {st st1 st2 : Option (List UInt8)} {m : Int} {s1 : List UInt8} (h : Up c k n st m st1) (h2 : Ua m st1 s1 st2) : Yn3 c k n st s1 st2 := by
  unfold Yn3
  cases st with
  | none => simp only [Up] at h; subst h; exact h2
  | some s =>
    simp only [Up] at h
    simp only []
    cases hx : cntP c k n s with
    | none => rw [hx] at h; simp only [] at h; subst h; exact h2
    | some x =>
      rw [hx] at h
      obtain ⟨rfl, rfl⟩ := h
      simp only [Option.bind_some]
      exact h2


theorem Rdr.box' {w : World} {rb sb : Nat} {st : Option (List UInt8)} (h : Rdr w rb sb st) : rb < w.heap.size := by
  obtain ⟨_, _, _, _, hb, _⟩ := h.view
  exact hb.lt
theorem new_only {w w1 w2 : World} {rb : Nat} (h1 : Chg (fun _ => False) w w1) (h2 : Chg (· = w.heap.size) w1 w2) : Chg (· = rb) w w2 :=
  ⟨h2.os.trans h1.os, h2.tape.trans h1.tape, h2.output.trans h1.output, Nat.le_trans h1.size h2.size, fun k hk _ => (h2.block k (Nat.lt_of_lt_of_le hk h1.size) (fun e => by have e' : k = w.heap.size := e; omega)).trans (h1.block k hk id)⟩
theorem zv_str (w : World) : (zeroValue 9).run Tryz.prog w = .ok (.string ByteArray.empty) w := by kernel_rfl
theorem to_str : XR Tryz.prog 9 = true := by kernel_rfl
theorem str_rel {c : Bool} {st st2 : Option (List UInt8)} {s1 : List UInt8} (h : Yn3 c .i16 2 st s1 st2) : Yd9 (if c then .cstr else .str) st [D.lit (Ya4 s1)] st2 := by
  refine ⟨by cases c <;> rfl, fun d hd => by simp at hd; subst hd; rfl, ?_⟩
  unfold Yn3 at h
  cases st with
  | none => exact h
  | some s =>
    simp only [] at h ⊢
    have e : rdP (if c then .cstr else .str) s = ((cntP c .i16 2 s).bind fun x => Uk x.1 x.2).map fun y => ([.lit (Ya4 y.1)], y.2) := by
      cases c
      · simp only [Bool.false_eq_true, if_false, rdP, cntP]
        cases Ye1 .i16 2 s <;> rfl
      · simp only [if_true, rdP, cntP]
        cases XC s <;> rfl
    rw [e]
    cases hx : (cntP c .i16 2 s).bind fun x => Uk x.1 x.2 with
    | none => rw [hx] at h; exact h
    | some y => rw [hx] at h; obtain ⟨rfl, rfl⟩ := h; exact ⟨rfl, rfl⟩
theorem nul_rel {c : Bool} {st st1 : Option (List UInt8)} {m : Int} (h : Up c .i16 2 st m st1) (hn : m < 0) : Yd9 (if c then .cnstr else .nstr) st [D.lit (.pointer none)] st1 := by
  refine ⟨by cases c <;> rfl, fun d hd => by simp at hd; subst hd; rfl, ?_⟩
  cases st with
  | none => exact h
  | some s =>
    simp only [Up] at h ⊢
    cases c
    · simp only [cntP, Bool.false_eq_true, if_false, rdP] at h ⊢
      cases hx : Ye1 .i16 2 s with
      | none => rw [hx] at h; exact h
      | some x =>
        rw [hx] at h
        obtain ⟨rfl, rfl⟩ := h
        simp only [Option.bind_some]
        rw [if_pos hn]
        exact ⟨rfl, rfl⟩
    · simp only [cntP, if_true, rdP] at h ⊢
      cases hx : XC s with
      | none => rw [hx] at h; exact h
      | some x =>
        rw [hx] at h
        obtain ⟨rfl, rfl⟩ := h
        simp only [Option.bind_some]
        rw [if_pos hn]
        exact ⟨rfl, rfl⟩
theorem nstr_rel {c : Bool} {st st1 st2 : Option (List UInt8)} {s1 : List UInt8} {m : Int} (h0 : Up c .i16 2 st m st1) (hn : ¬ m < 0) (h : Yn3 c .i16 2 st s1 st2) : Yd9 (if c then .cnstr else .nstr) st [D.ptr (.lit (Ya4 s1))] st2 := by
  refine ⟨by cases c <;> rfl, fun d hd => by simp at hd; subst hd; rfl, ?_⟩
  unfold Yn3 at h
  cases st with
  | none => exact h
  | some s =>
    simp only [Up] at h0
    simp only [] at h ⊢
    cases c
    · simp only [cntP, Bool.false_eq_true, if_false, rdP] at h0 h ⊢
      cases hx : Ye1 .i16 2 s with
      | none => rw [hx] at h; exact h
      | some x =>
        rw [hx] at h h0
        obtain ⟨rfl, rfl⟩ := h0
        simp only [Option.bind_some] at h ⊢
        rw [if_neg hn]
        cases hy : Uk x.1 x.2 with
        | none => rw [hy] at h; exact h
        | some y => rw [hy] at h; obtain ⟨rfl, rfl⟩ := h; exact ⟨rfl, rfl⟩
    · simp only [cntP, if_true, rdP] at h0 h ⊢
      cases hx : XC s with
      | none => rw [hx] at h; exact h
      | some x =>
        rw [hx] at h h0
        obtain ⟨rfl, rfl⟩ := h0
        simp only [Option.map_some, Option.bind_some] at h ⊢
        rw [if_neg hn]
        cases hy : Uk ((x.1 : Int) - 1) x.2 with
        | none => rw [hy] at h; exact h
        | some y => rw [hy] at h; obtain ⟨rfl, rfl⟩ := h; exact ⟨rfl, rfl⟩

theorem rd_String : RdC Tryz.prog 123 .str := by
  intro w rb sb lo st hr h1 h2 h3 h4
  refine enter Tryz.func123 rfl Tryz.ntmps123 rfl ?_
  refine Yk (Yd (YB rfl rfl (Ym (Yj ?_))))
  refine Yk (Yd ?_)
  refine ws rfl rfl ?_
  refine Yu rfl (by kernel_rfl) rfl ((Yf5 rd_Int16 .i16 2 (fun s => rfl) rfl w rb sb lo st hr h1 h2 h3 h4).mono ?_)
  rintro en w1 ⟨m, st1, rfl, hwr, hc1, hr1, hrel⟩
  refine ⟨_, rfl, ?_⟩
  refine ws rfl rfl ?_
  refine Ym (Yj ?_)
  have hs1 := hc1.size
  have hcnt : Up false .i16 2 st m st1 := cnt_i hrel
  have hrange : IntKind.i64.wrap m = m := by rw [JT] at hwr; rw [IntKind.wrap_i64]; omega
  refine Yk (Yd ?_)
  refine ws rfl rfl ?_
  refine ws rfl rfl ?_
  refine YC .i64 rfl (by kernel_rfl) (by kernel_rfl) rfl hrange ?_
  refine Yu rfl (by kernel_rfl) rfl ((Yc1 w1 rb sb st1 (m) hr1 h4).mono ?_)
  rintro en w2 ⟨v, s1, st2, rfl, hc2, hr2, hsv, hlim, hspan⟩
  refine ⟨_, rfl, ?_⟩
  refine Ye4 (sb := sb) (bs := s1) rfl hsv bytes_ty str_ty rfl ?_
  have hs2 := hc2.size
  refine ws rfl rfl ?_
  refine Ym (Yj (Yn (Yt rfl rfl ?_)))
  refine ⟨Ya4 s1, [.lit (Ya4 s1)], st2, rfl, hc1.trans hc2, hr2, Ve [_], rfl, fun _ => rfl, ?_⟩
  exact str_rel (c := false) (Ye6 hcnt hspan)
theorem rd_CompactString : RdC Tryz.prog 122 .cstr := by
  intro w rb sb lo st hr h1 h2 h3 h4
  refine enter Tryz.func122 rfl Tryz.ntmps122 rfl ?_
  refine Yk (Yd (YB rfl rfl (Ym (Yj ?_))))
  refine Yk (Yd ?_)
  refine ws rfl rfl ?_
  refine Yu rfl (by kernel_rfl) rfl ((Ym1 w rb sb st hr h4).mono ?_)
  rintro en w1 ⟨u, st1, rfl, hc1, hr1, hrel⟩
  refine ⟨_, rfl, ?_⟩
  have hul := hrel.1
  refine YC .i64 (r := (u : Int)) rfl (by kernel_rfl) (by kernel_rfl) rfl (by rw [IntKind.wrap_i64]; omega) ?_
  refine UK (r := (u : Int) - 1) rfl rfl rfl (by rw [IntKind.wrap_i64]; omega) ?_
  refine ws rfl rfl ?_
  refine Ym (Yj ?_)
  have hs1 := hc1.size
  have hcnt : Up true .i16 2 st ((u : Int) - 1) st1 := cnt_u hrel
  refine Yk (Yd ?_)
  refine ws rfl rfl ?_
  refine ws rfl rfl ?_
  refine Yu rfl (by kernel_rfl) rfl ((Yc1 w1 rb sb st1 ((u : Int) - 1) hr1 h4).mono ?_)
  rintro en w2 ⟨v, s1, st2, rfl, hc2, hr2, hsv, hlim, hspan⟩
  refine ⟨_, rfl, ?_⟩
  refine Ye4 (sb := sb) (bs := s1) rfl hsv bytes_ty str_ty rfl ?_
  have hs2 := hc2.size
  refine ws rfl rfl ?_
  refine Ym (Yj (Yn (Yt rfl rfl ?_)))
  refine ⟨Ya4 s1, [.lit (Ya4 s1)], st2, rfl, hc1.trans hc2, hr2, Ve [_], rfl, fun _ => rfl, ?_⟩
  exact str_rel (c := true) (Ye6 hcnt hspan)
theorem rd_NullableString : RdC Tryz.prog 113 .nstr := by
  intro w rb sb lo st hr h1 h2 h3 h4
  refine enter Tryz.func113 rfl Tryz.ntmps113 rfl ?_
  refine Yk (Yd (YB rfl rfl (Ym (Yj ?_))))
  refine Yk (Yd ?_)
  refine ws rfl rfl ?_
  refine Yu rfl (by kernel_rfl) rfl ((Yf5 rd_Int16 .i16 2 (fun s => rfl) rfl w rb sb lo st hr h1 h2 h3 h4).mono ?_)
  rintro en w1 ⟨m, st1, rfl, hwr, hc1, hr1, hrel⟩
  refine ⟨_, rfl, ?_⟩
  refine ws rfl rfl ?_
  refine Ym (Yj ?_)
  have hs1 := hc1.size
  have hcnt : Up false .i16 2 st m st1 := cnt_i hrel
  have hrange : IntKind.i64.wrap m = m := by rw [JT] at hwr; rw [IntKind.wrap_i64]; omega
  refine Yk (Yk (Yd ?_))
  refine ws rfl rfl ?_
  refine ws rfl rfl ?_
  refine Ym (Yj ?_)
  refine VG rfl (fun hc => ?_) (fun hc => ?_)
  · refine Yk (Yd ?_)
    refine ws rfl rfl ?_
    refine Ym (Yj (Yn (Ye (Yt rfl rfl ?_))))
    have hneg : m < 0 := by simpa using hc
    refine ⟨_, [.lit (.pointer none)], st1, rfl, hc1, hr1, Ve [_], rfl, fun _ => rfl, ?_⟩
    exact nul_rel (c := false) hcnt hneg
  refine Yi (Yj ?_)
  have hnn : ¬ m < 0 := by simpa using hc
  refine Yk (Yd ?_)
  refine ws rfl rfl ?_
  refine ws rfl rfl ?_
  refine YC .i64 rfl (by kernel_rfl) (by kernel_rfl) rfl hrange ?_
  refine Yu rfl (by kernel_rfl) rfl ((Yc1 w1 rb sb st1 (m) hr1 h4).mono ?_)
  rintro en w2 ⟨v, s1, st2, rfl, hc2, hr2, hsv, hlim, hspan⟩
  refine ⟨_, rfl, ?_⟩
  refine Ye4 (sb := sb) (bs := s1) rfl hsv bytes_ty str_ty rfl ?_
  have hs2 := hc2.size
  refine Xp zv_str rfl rfl (fun w3 hb3 hg3 hs3 => ?_)
  refine YJ rfl rfl to_str rfl hb3 rfl (fun w4 hb4 hg4 _ => ?_)
  refine Ym (Yj (Yk (Yd ?_)))
  refine ws rfl rfl ?_
  refine Ym (Yj (Yn (Yt rfl rfl ?_)))
  have c3 : Chg (fun _ => False) w2 w3 := Chg.grown0 hg3
  have c4 : Chg (· = w2.heap.size) w3 w4 := Chg.grown hg4
  have hrb := Rdr.box' hr
  have c34 : Chg (· = rb) w2 w4 := new_only c3 c4
  have hsz4 := c4.size
  refine ⟨_, [.ptr (.lit (Ya4 s1))], st2, rfl, (hc1.trans hc2).trans c34, (hr2.chg c3 id id).chg c4 (by omega) (by omega), ?_, rfl, fun _ => rfl, ?_⟩
  · refine ⟨[_], [], rfl, ⟨w2.heap.size, _, rfl, ⟨.inr (by omega), by omega⟩, hb4.cells, rfl⟩, rfl⟩
  · exact nstr_rel (c := false) hcnt hnn (Ye6 hcnt hspan)
theorem rd_CompactNullableString : RdC Tryz.prog 111 .cnstr := by
  intro w rb sb lo st hr h1 h2 h3 h4
  refine enter Tryz.func111 rfl Tryz.ntmps111 rfl ?_
  refine Yk (Yd (YB rfl rfl (Ym (Yj ?_))))
  refine Yk (Yd ?_)
  refine ws rfl rfl ?_
  refine Yu rfl (by kernel_rfl) rfl ((Ym1 w rb sb st hr h4).mono ?_)
  rintro en w1 ⟨u, st1, rfl, hc1, hr1, hrel⟩
  refine ⟨_, rfl, ?_⟩
  have hul := hrel.1
  refine YC .i64 (r := (u : Int)) rfl (by kernel_rfl) (by kernel_rfl) rfl (by rw [IntKind.wrap_i64]; omega) ?_
  refine UK (r := (u : Int) - 1) rfl rfl rfl (by rw [IntKind.wrap_i64]; omega) ?_
  refine ws rfl rfl ?_
  refine Ym (Yj ?_)
  have hs1 := hc1.size
  have hcnt : Up true .i16 2 st ((u : Int) - 1) st1 := cnt_u hrel
  refine Yk (Yk (Yd ?_))
  refine ws rfl rfl ?_
  refine ws rfl rfl ?_
  refine Ym (Yj ?_)
  refine VG rfl (fun hc => ?_) (fun hc => ?_)
  · refine Yk (Yd ?_)
    refine ws rfl rfl ?_
    refine Ym (Yj (Yn (Ye (Yt rfl rfl ?_))))
    have hneg : (u : Int) - 1 < 0 := by simpa using hc
    refine ⟨_, [.lit (.pointer none)], st1, rfl, hc1, hr1, Ve [_], rfl, fun _ => rfl, ?_⟩
    exact nul_rel (c := true) hcnt hneg
  refine Yi (Yj ?_)
  have hnn : ¬ (u : Int) - 1 < 0 := by simpa using hc
  refine Yk (Yd ?_)
  refine ws rfl rfl ?_
  refine ws rfl rfl ?_
  refine Yu rfl (by kernel_rfl) rfl ((Yc1 w1 rb sb st1 ((u : Int) - 1) hr1 h4).mono ?_)
  rintro en w2 ⟨v, s1, st2, rfl, hc2, hr2, hsv, hlim, hspan⟩
  refine ⟨_, rfl, ?_⟩
  refine Ye4 (sb := sb) (bs := s1) rfl hsv bytes_ty str_ty rfl ?_
  have hs2 := hc2.size
  refine Xp zv_str rfl rfl (fun w3 hb3 hg3 hs3 => ?_)
  refine YJ rfl rfl to_str rfl hb3 rfl (fun w4 hb4 hg4 _ => ?_)
  refine Ym (Yj (Yk (Yd ?_)))
  refine ws rfl rfl ?_
  refine Ym (Yj (Yn (Yt rfl rfl ?_)))
  have c3 : Chg (fun _ => False) w2 w3 := Chg.grown0 hg3
  have c4 : Chg (· = w2.heap.size) w3 w4 := Chg.grown hg4
  have hrb := Rdr.box' hr
  have c34 : Chg (· = rb) w2 w4 := new_only c3 c4
  have hsz4 := c4.size
  refine ⟨_, [.ptr (.lit (Ya4 s1))], st2, rfl, (hc1.trans hc2).trans c34, (hr2.chg c3 id id).chg c4 (by omega) (by omega), ?_, rfl, fun _ => rfl, ?_⟩
  · refine ⟨[_], [], rfl, ⟨w2.heap.size, _, rfl, ⟨.inr (by omega), by omega⟩, hb4.cells, rfl⟩, rfl⟩
  · exact nstr_rel (c := true) hcnt hnn (Ye6 hcnt hspan)
end Go.Proofs.YtgjplodgdgaakaaGreatDoor.Rdk

/- The package's reader at the seat: octets (text printed by tools/octs.py). -/
namespace Go.Proofs.YtgjplodgdgaakaaGreatDoor.Rdk
open Go Go.RowKit

set_option maxRecDepth 100000
end Go.Proofs.YtgjplodgdgaakaaGreatDoor.Rdk

/- What is read of what is written: tags, lists. No program in sight. -/
namespace Go.Proofs.YtgjplodgdgaakaaGreatDoor
open Go Go.RowKit

def Vh (u : List (Nat × List UInt8)) : Prop := u.Pairwise fun a b => a.1 < b.1
theorem Ya2 (k : Nat) (v : List UInt8) : ∀ (u : List (Nat × List UInt8)), Vh u → Vh (YT k v u) ∧ ∀ n, (∀ kv ∈ u, n < kv.1) → n < k → ∀ kv ∈ YT k v u, n < kv.1
  | [], _ => ⟨by simp [YT, Vh], fun n _ hk kv h => by simp [YT] at h; subst h; exact hk⟩
  | x :: u, h => by
    have hx := List.pairwise_cons.1 h
    obtain ⟨i1, i2⟩ := Ya2 k v u hx.2
    simp only [YT]
    split
    · rename_i hlt
      refine ⟨List.pairwise_cons.2 ⟨fun y hy => i2 x.1 (fun z hz => hx.1 z hz) hlt y hy, i1⟩, fun n hn hk kv hkv => ?_⟩
      rcases List.mem_cons.1 hkv with rfl | hm
      · exact hn _ (by simp)
      · exact i2 n (fun z hz => hn z (by simp [hz])) hk kv hm
    · split
      · exact ⟨h, fun n hn _ => hn⟩
      · rename_i h1 h2
        refine ⟨List.pairwise_cons.2 ⟨fun y hy => ?_, h⟩, fun n hn hk kv hkv => ?_⟩
        · rcases List.mem_cons.1 hy with rfl | hm
          · show k < _; omega
          · have := hx.1 y hm; show k < _; omega
        · rcases List.mem_cons.1 hkv with rfl | hm
          · exact hk
          · exact hn kv hm
theorem Jo (fs : List Fld) (u : List (Nat × List UInt8)) : Vh (YZ fs u) := by
  unfold YZ
  have : ∀ (l : List (Nat × List UInt8)) (out : List (Nat × List UInt8)), Vh out → Vh (l.foldl (fun out kv => if kv.1 < YI fs then out else YT kv.1 kv.2 out) out) := by
    intro l
    induction l with
    | nil => intro out h; exact h
    | cons x l ih =>
      intro out h
      simp only [List.foldl_cons]
      split
      · exact ih out h
      · exact ih _ (Ya2 x.1 x.2 out h).1
  exact this _ [] (by simp [Vh])
theorem Ym8 (k : Nat) (v : List UInt8) : ∀ (u : List (Nat × List UInt8)), (∀ kv ∈ u, kv.1 < k) → Vo k v u = u ++ [(k, v)]
  | [], _ => rfl
  | x :: u, h => by
    have := h x (by simp)
    simp only [Vo, if_pos this, Ym8 k v u (fun y hy => h y (by simp [hy])), List.cons_append]
theorem tagsR_ok : ∀ (u acc : List (Nat × List UInt8)) (s : List UInt8), Vh (acc ++ u) → (∀ kv ∈ u, kv.1 < 4294967296 ∧ kv.2.length ≤ XQ) → tagsR u.length acc ((u.flatMap fun kv => Jq kv.1 kv.2) ++ s) = some (acc ++ u, s)
  | [], acc, s, _, _ => by simp [tagsR]
  | x :: u, acc, s, hr, hb => by
    have hx := hb x (by simp)
    have hM : XQ = 32767 := rfl
    have hlast : ∀ kv ∈ acc, kv.1 < x.1 := by
      intro kv hkv
      exact (List.pairwise_append.1 hr).2.2 kv hkv x (by simp)
    simp only [List.length_cons, tagsR, List.flatMap_cons, Jq, List.append_assoc]
    rw [Xz _ _ hx.1]
    simp only [Option.bind_some]
    rw [Xz _ _ (by omega)]
    simp only [Option.bind_some]
    rw [JI _ _ _ rfl]
    simp only [Option.bind_some]
    rw [Ym8 _ _ _ hlast]
    have ih := tagsR_ok u (acc ++ [x]) s (by simpa [List.append_assoc] using hr) (fun kv h => hb kv (by simp [h]))
    simp only [Jq, List.append_assoc] at ih
    rw [ih]
    simp
theorem tagsP_ok (u : List (Nat × List UInt8)) (s : List UInt8) (hr : Vh u) (hb : ∀ kv ∈ u, kv.1 < 4294967296 ∧ kv.2.length ≤ XQ) (hl : u.length ≤ XQ) : tagsP (uvar u.length ++ (u.flatMap fun kv => Jq kv.1 kv.2) ++ s) = some (u, s) := by
  have hM : XQ = 32767 := rfl
  simp only [tagsP, List.append_assoc]
  rw [Xz _ _ (by omega)]
  simp only [Option.bind_some]
  have := tagsR_ok u [] s (by simpa using hr) hb
  simpa using this
theorem lenP_ok (flex null : Bool) (n : Nat) (s : List UInt8) (hn : n ≤ XQ) (hs : null = true ∨ n ≤ s.length) : lenP flex (YF flex null n 4 ++ s) = some (if null then -1 else (n : Int), s) := by
  have hM : XQ = 32767 := rfl
  cases null with
  | true =>
    cases flex
    · simp only [lenP, YF, Bool.false_eq_true, if_false, if_true]
      rw [Vz .i32 4 32 rfl rfl]
      simp [IntKind.wrap_i32]
    · have : XC (0 :: s) = some (0, s) := by have := Xz 0 s (by omega); rw [uvar0] at this; exact this
      simp [lenP, YF, this, IntKind.wrap_i32]
  | false =>
    have hs' : n ≤ s.length := by rcases hs with h | h; cases h; exact h
    cases flex
    · simp only [lenP, YF, Bool.false_eq_true, if_false]
      rw [Vz .i32 4 32 rfl rfl]
      have hw : IntKind.i32.wrap (n : Int) = n := by rw [IntKind.wrap_i32]; omega
      simp only [Option.bind_some, hw]
      rw [if_neg (by omega)]
    · simp only [lenP, YF, Bool.false_eq_true, if_false, if_true]
      rw [Xz _ _ (by omega)]
      have hw : IntKind.i32.wrap (IntKind.i32.wrap ((n + 1 : Nat) : Int) - 1) = n := by simp only [IntKind.wrap_i32]; omega
      simp only [Option.map_some, Option.bind_some, hw]
      rw [if_neg (by omega)]
/-- Elements, one behind the other. -/
theorem rdRow_ok {α : Type} (body : List Ra) (dfl : List D) (b : α → List UInt8) (Q : α → List D → Prop) : ∀ (l : List α), (∀ x ∈ l, ∀ s, ∃ nd, rdAs body dfl (b x ++ s) = some (nd, s) ∧ Q x nd) → ∀ s, ∃ dss, VO body dfl l.length (l.flatMap b ++ s) = some (dss, s) ∧ dss.length = l.length ∧ ∀ i (h : i < l.length), ∃ nd, dss[i]? = some nd ∧ Q l[i] nd
  | [], _, s => ⟨[], by simp [VO], rfl, fun i h => by cases h⟩
  | x :: l, h, s => by
    obtain ⟨nd, h1, h2⟩ := h x (by simp) (l.flatMap b ++ s)
    obtain ⟨dss, h3, h4, h5⟩ := rdRow_ok body dfl b Q l (fun y hy => h y (by simp [hy])) s
    refine ⟨nd :: dss, ?_, by simp [h4], fun i hi => ?_⟩
    · simp only [List.length_cons, List.flatMap_cons, List.append_assoc, VO]
      rw [h1]
      simp only [Option.bind_some]
      rw [h3]; rfl
    · cases i with
      | zero => exact ⟨nd, rfl, h2⟩
      | succ i => obtain ⟨nd', h6, h7⟩ := h5 i (by simpa using hi); exact ⟨nd', by simpa using h6, by simpa using h7⟩
theorem imp_list : ∀ {a b : List D}, a.length = b.length → (∀ (i : Nat) (x y : D), a[i]? = some x → b[i]? = some y → Imp [x] [y]) → Imp a b
  | [], [], _, _ => Imp.refl _
  | [], y :: b, h, _ => by simp at h
  | x :: a, [], h, _ => by simp at h
  | x :: a, y :: b, h, k => by
    have h1 := k 0 x y rfl rfl
    have h2 := imp_list (a := a) (b := b) (by simpa using h) (fun i u v hu hv => k (i + 1) u v (by simpa using hu) (by simpa using hv))
    exact Imp.app h1 h2
theorem imp_sl {n : Bool} {a b : List D} (hl : a.length = b.length) (h : Imp a b) : Imp [.sl n a] [.sl n b] := by
  refine Imp.one (fun ok w cs hr => ?_)
  simp only [Rep] at hr ⊢
  obtain ⟨p, c, e, hle, h1, h2⟩ := hr
  refine ⟨p, c, by rw [← hl]; exact e, by rw [← hl]; exact hle, fun hn => ?_, fun hn => ?_⟩
  · obtain ⟨k1, k2, k3⟩ := h1 hn
    subst k2
    refine ⟨k1, ?_, k3⟩
    cases b with
    | nil => rfl
    | cons x b => simp at hl
  · obtain ⟨b', off, cs', k1, k2, k3, k4⟩ := h2 hn
    exact ⟨b', off, cs', k1, k2, k3, h ok w cs' k4⟩
theorem imp_sq {a b : List D} (hl : a.length = b.length) (h : Imp a b) : Imp [.sq a] [.sq b] := by
  refine Imp.one (fun ok w cs hr => ?_)
  simp only [Rep] at hr ⊢
  obtain ⟨p, c, e, hle, h1⟩ := hr
  refine ⟨p, c, by rw [← hl]; exact e, by rw [← hl]; exact hle, ?_⟩
  rcases h1 with k | ⟨b', off, cs', k1, k2, k3, k4⟩
  · left
    subst k
    cases b with
    | nil => rfl
    | cons x b => simp at hl
  · exact .inr ⟨b', off, cs', k1, k2, k3, h ok w cs' k4⟩
def rpN : Rp → Nat
  | .bool => 0 | .i8 => 1 | .i16 => 2 | .i32 => 3 | .i64 => 4 | .u16 => 5 | .uuid => 6 | .str => 7 | .cstr => 8 | .nstr => 9 | .cnstr => 10 | .bytes => 11 | .cbytes => 12 | .nbytes => 13 | .cnbytes => 14
def rpEq (a b : Rp) : Bool := Nat.beq (rpN a) (rpN b)
theorem rpEq_out {a b : Rp} (h : rpEq a b = true) : a = b := by
  have := Ys h
  cases a <;> cases b <;> first | rfl | cases this
def ne1 (ver : Int) (fs : List Fld) : Bool := fs.any fun f => f.has ver && decide (f.tag < 0) && !decide (f.kind = 10)
def endR (flex : Bool) (off : Nat) (ra : List Ra) : Option (List Ra) := if flex then (match ra with
  | .tags o :: r => bif Nat.beq o off then some r else none
  | _ => none) else some ra
def isEnd (flex : Bool) (off : Nat) (ra : List Ra) : Bool := match endR flex off ra with
  | some [] => true
  | _ => false
def endsO (flex : Bool) (off : Nat) : Option (List Ra) → Bool
  | some r => isEnd flex off r
  | none => false
def isPrim (p : Rp) : List Ra → Bool
  | [.prim q 0] => rpEq q p
  | _ => false
mutual
/-- Do these acts read the field? -/
def mF (ver : Int) (tg flex : Bool) (off : Nat) : Fld → List Ra → Option (List Ra)
  | .mk kind _ _ nul _ _ of sub, ra =>
    if kind = 11 then (match ra with
      | .row c nb o st dfl body :: r =>
        bif (c == flex) && (nb == decide (0 ≤ nul ∧ nul ≤ ver)) && Nat.beq o off && (st == decide (of = 10)) && decide (shDs (Xj dfl) = shE tg of sub) &&
          (if of = 10 then (flex || ne1 ver sub) && endsO flex (shFs tg sub).length (mFs ver tg flex 0 sub body) else isPrim (rpV of (-1) ver flex) body) then some r else none
      | _ => none)
    else if kind = 10 then (if 0 ≤ nul then none else match mFs ver tg flex off sub ra with | some r => endR flex (off + (shFs tg sub).length) r | none => none)
    else (match ra with
      | .prim p o :: r => bif rpEq p (rpV kind nul ver flex) && Nat.beq o off then some r else none
      | _ => none)
def mFs (ver : Int) (tg flex : Bool) (off : Nat) : List Fld → List Ra → Option (List Ra)
  | [], ra => some ra
  | f :: fs, ra => match (if f.has ver then mF ver tg flex off f ra else some ra) with
    | some r => mFs ver tg flex (off + (shF tg f).length) fs r
    | none => none
end
def mP (ver : Int) (tg flex : Bool) (off : Nat) (fs : List Fld) (ra : List Ra) : Option (List Ra) := match mFs ver tg flex off fs ra with
  | some r => endR flex (off + (shFs tg fs).length) r
  | none => none
theorem unit_split : ∀ {ds : List D} {x y : List Ck}, Ye5 ds → shDs ds = x ++ y → ∃ a b, ds = a ++ b ∧ shDs a = x ∧ shDs b = y ∧ Ye5 a ∧ Ye5 b := by
  intro ds x y hu h
  have hl := unit_len hu
  have hlen : x.length ≤ ds.length := by rw [← hl, h]; simp
  refine ⟨ds.take x.length, ds.drop x.length, (List.take_append_drop _ _).symm, ?_, ?_, fun d hd => hu d (List.mem_of_mem_take hd), fun d hd => hu d (List.mem_of_mem_drop hd)⟩
  · have h1 : shDs ds = shDs (ds.take x.length) ++ shDs (ds.drop x.length) := by rw [← shDs_append, List.take_append_drop]
    have h2 : (shDs (ds.take x.length)).length = x.length := by rw [unit_len (fun d hd => hu d (List.mem_of_mem_take hd))]; simp; omega
    rw [h] at h1
    exact (List.append_inj h1 h2.symm).1.symm
  · have h1 : shDs ds = shDs (ds.take x.length) ++ shDs (ds.drop x.length) := by rw [← shDs_append, List.take_append_drop]
    have h2 : (shDs (ds.take x.length)).length = x.length := by rw [unit_len (fun d hd => hu d (List.mem_of_mem_take hd))]; simp; omega
    rw [h] at h1
    exact (List.append_inj h1 h2.symm).2.symm
theorem unit_app {a b : List D} (ha : Ye5 a) (hb : Ye5 b) : Ye5 (a ++ b) := fun d hd => (List.mem_append.1 hd).elim (ha d) (hb d)
theorem uvar_pos1 (n : Nat) : 1 ≤ (uvar n).length := by rw [uvar]; split <;> simp
theorem Js (flex null : Bool) (n k : Nat) (hk : 0 < k) : 1 ≤ (YF flex null n k).length := by
  unfold YF
  cases flex <;> cases null <;> simp [be_size] <;> first | omega | skip
  exact uvar_pos1 _
theorem wVal_pos (kind : Int) (flex null : Bool) (p : Tree → List UInt8) (t : Tree) (h : kind ≠ 10) : 1 ≤ (Xu kind flex null p t).length := by
  unfold Xu
  split
  · simp
  split
  · rw [VE]; omega
  split
  · have := Js flex null (if null then [] else whole t.s).length 2 (by omega)
    rw [List.length_append]; omega
  split
  · have := Js flex null (if null then [] else whole t.s).length 4 (by omega)
    rw [List.length_append]; omega
  rw [be_size]
  unfold width
  repeat' split
  all_goals omega
theorem wField_pos (ver : Int) (flex : Bool) (f : Fld) (t : Tree) (h : f.kind ≠ 10) : 1 ≤ (Xn ver flex f t).length := by
  cases f with
  | mk kind fr upto nul tag df of sub =>
    have hk : kind ≠ 10 := h
    rw [VR ver flex kind fr upto nul tag df of sub t _ rfl]
    split
    · rw [List.length_append]
      have := Js flex (t.nul && decide (0 ≤ nul) && decide (nul ≤ ver)) (if (t.nul && decide (0 ≤ nul) && decide (nul ≤ ver)) then [] else Xq t.l).length 4 (by omega)
      omega
    · rw [if_neg (fun e => hk e.1)]
      exact wVal_pos _ _ _ _ _ hk
theorem wFs_pos (ver : Int) (flex : Bool) : ∀ (fs : List Fld) (i : Nat) (t : Tree), ne1 ver fs = true → 1 ≤ (wFs ver flex fs i t).length
  | [], _, _, h => by simp [ne1] at h
  | f :: fs, i, t, h => by
    simp only [ne1, List.any_cons, Bool.or_eq_true] at h
    simp only [wFs, List.length_append]
    rcases h with h | h
    · simp only [Bool.and_eq_true, decide_eq_true_eq, Bool.not_eq_true', decide_eq_false_iff_not] at h
      rw [if_pos ⟨h.1.2, h.1.1⟩]
      have := wField_pos ver flex f (att t i) h.2
      omega
    · have := wFs_pos ver flex fs (i + 1) t h
      omega
theorem wPart_pos (ver : Int) (flex : Bool) (fs : List Fld) (t : Tree) (h : (flex || ne1 ver fs) = true) : 1 ≤ (YO ver flex fs t).length := by
  unfold YO asm
  cases flex with
  | true =>
    simp only [if_true, List.length_append]
    have := uvar_pos1 (XS ver true fs t).length
    omega
  | false =>
    simp only [Bool.false_eq_true, if_false]
    exact wFs_pos ver false fs 0 t (by simpa using h)
theorem Yg9 {α : Type} (b : α → List UInt8) : ∀ (l : List α), (∀ x ∈ l, 1 ≤ (b x).length) → l.length ≤ (l.flatMap b).length
  | [], _ => Nat.le_refl _
  | x :: l, h => by
    have h1 := h x (by simp)
    have h2 := Yg9 b l (fun y hy => h y (by simp [hy]))
    simp only [List.flatMap_cons, List.length_append, List.length_cons]; omega
end Go.Proofs.YtgjplodgdgaakaaGreatDoor

/- Tags as a map, and the map's writing. Over any program. -/
namespace Go.Proofs.YtgjplodgdgaakaaGreatDoor
open Go Go.RowKit

theorem JX {ok : Nat → Prop} {w : World} {es : Array MapEntry} : ∀ (kvs : List (Nat × D)), Jn ok w es kvs ↔ ∀ kv ∈ kvs, ∃ e ∈ es, e.key = .int .u32 kv.1 ∧ Rep ok w kv.2 [e.val]
  | [] => by simp [Jn]
  | kv :: kvs => by simp only [Jn, JX kvs, List.mem_cons, forall_eq_or_imp]
theorem VH {k : Nat} {v : List UInt8} : ∀ {u : List (Nat × List UInt8)}, Vh u → ∀ {kv : Nat × List UInt8}, kv ∈ Vo k v u ↔ kv = (k, v) ∨ (kv ∈ u ∧ kv.1 ≠ k)
  | [], _, kv => by simp [Vo]
  | x :: u, h, kv => by
    have hx := List.pairwise_cons.1 h
    simp only [Vo]
    split
    · rename_i hlt
      simp only [List.mem_cons, VH hx.2]
      constructor
      · rintro (rfl | rfl | ⟨h1, h2⟩)
        · exact .inr ⟨.inl rfl, by omega⟩
        · exact .inl rfl
        · exact .inr ⟨.inr h1, h2⟩
      · rintro (rfl | ⟨rfl | h1, h2⟩)
        · exact .inr (.inl rfl)
        · exact .inl rfl
        · exact .inr (.inr ⟨h1, h2⟩)
    · split
      · rename_i h1 h2
        simp only [List.mem_cons]
        constructor
        · rintro (rfl | h3)
          · exact .inl rfl
          · exact .inr ⟨.inr h3, by have := hx.1 kv h3; omega⟩
        · rintro (rfl | ⟨rfl | h3, h4⟩)
          · exact .inl rfl
          · exact absurd h2 h4
          · exact .inr h3
      · rename_i h1 h2
        simp only [List.mem_cons]
        constructor
        · rintro (rfl | rfl | h3)
          · exact .inl rfl
          · exact .inr ⟨.inl rfl, h2⟩
          · exact .inr ⟨.inr h3, by have := hx.1 kv h3; omega⟩
        · rintro (rfl | ⟨rfl | h3, _⟩)
          · exact .inl rfl
          · exact .inr (.inl rfl)
          · exact .inr (.inr h3)
theorem UC {k : Nat} {v : List UInt8} : ∀ {u : List (Nat × List UInt8)}, Vh u → Vh (Vo k v u)
  | [], _ => by simp [Vo, Vh]
  | x :: u, h => by
    have hx := List.pairwise_cons.1 h
    simp only [Vo]
    split
    · rename_i hlt
      refine List.pairwise_cons.2 ⟨fun y hy => ?_, UC hx.2⟩
      rcases (VH hx.2).1 hy with rfl | ⟨h1, _⟩
      · exact hlt
      · exact hx.1 y h1
    · split
      · rename_i h1 h2
        exact List.pairwise_cons.2 ⟨fun y hy => by have := hx.1 y hy; show k < _; omega, hx.2⟩
      · rename_i h1 h2
        refine List.pairwise_cons.2 ⟨fun y hy => ?_, h⟩
        rcases List.mem_cons.1 hy with rfl | hm
        · show k < _; omega
        · have := hx.1 y hm; show k < _; omega
theorem Ya1 {k : Nat} {v : List UInt8} : ∀ {u : List (Nat × List UInt8)}, Vh u → (Vo k v u).length = if k ∈ u.map (·.1) then u.length else u.length + 1
  | [], _ => by simp [Vo]
  | x :: u, h => by
    have hx := List.pairwise_cons.1 h
    have ih := Ya1 (k := k) (v := v) hx.2
    simp only [Vo]
    split
    · rename_i hlt
      simp only [List.length_cons, ih, List.map_cons, List.mem_cons]
      have : (k = x.1 ∨ k ∈ u.map (·.1)) ↔ k ∈ u.map (·.1) := by
        constructor
        · rintro (h | h)
          · omega
          · exact h
        · exact .inr
      simp only [this]
      split <;> rfl
    · split
      · rename_i h1 h2
        rw [if_pos (by simp [h2])]; simp
      · rename_i h1 h2
        rw [if_neg ?_]
        · simp
        · simp only [List.map_cons, List.mem_cons, List.mem_map, not_or, not_exists, not_and]
          refine ⟨fun e => h2 e.symm, fun y hy e => ?_⟩
          have := hx.1 y hy
          omega
section
variable {P : Program} {w : World} {mty kt et : TypeId} {r clock : Nat} {es : Array MapEntry} {ks : List Nat}
theorem run_mapUpd (hm : P.underlying mty = some (.map kt et)) (hd : P.underlying kt = some (.int .u32)) (hb : w.heap[r]? = some (.map es clock)) (hmap : Mapped es clock ks) (hin : ∀ k ∈ ks, ∃ e ∈ es, e.key = .int .u32 k) (key : Nat) (val : Value) :
    ∃ w' es' clock', (Instr.mapUpdate mty (.map (some r)) (.int .u32 key) val).run P w = .ok () w' ∧ w'.heap[r]? = some (.map es' clock') ∧ Chg (· = r) w w' ∧ w'.heap.size = w.heap.size ∧ MapKept.Stamped es' clock' ∧
      ((key ∉ ks ∧ es' = es.push { key := .int .u32 key, val := val, born := clock }) ∨ (key ∈ ks ∧ ∃ j e, es[j]? = some e ∧ e.key = .int .u32 key ∧ es' = es.modify j fun e => { e with key := .int .u32 key, val := val })) := by
  obtain ⟨h1, h2, h3, _⟩ := hmap
  have hk : MapKept.IsKey (.int .u32) (.int .u32 (key : Int)) := rfl
  have hks : ∀ x ∈ es.toList, MapKept.IsKey (.int .u32) x.key := fun x hx => by
    obtain ⟨k, _, e⟩ := h3 x hx
    rw [e]; rfl
  have chg : ∀ o, Chg (· = r) w { w with heap := w.heap.setIfInBounds r o } := fun o => ⟨rfl, rfl, rfl, by simp, fun k _ hne => (MapKept.heap_set hb).2 k hne⟩
  rcases MapKept.findNow_spec hk es.toList 0 hks with ⟨g1, g2⟩ | ⟨j, e, g1, g2, g3⟩
  · refine ⟨_, es.push { key := .int .u32 key, val := val, born := clock }, clock + 1, ?_, (MapKept.heap_set hb).1, chg _, by simp, MapKept.stamped_push h2 g2, .inl ⟨fun hin' => ?_, rfl⟩⟩
    · simp [Instr.mapUpdate, run_underlying hm, MapKept.run_getObj_map hb, MapKept.run_checkKey hd hk, MapKept.run_findKey hd g1, MapKept.run_setObj_map _ hb, Result.andThen]
    · obtain ⟨x, hx, e⟩ := hin key hin'
      exact g2 x (Array.mem_toList_iff.2 hx) e
  · have hj : es[j]? = some e := by simpa using g2
    refine ⟨_, es.modify j fun e => { e with key := .int .u32 key, val := val }, clock, ?_, (MapKept.heap_set hb).1, chg _, by simp, ?_, .inr ⟨?_, j, e, hj, g3, rfl⟩⟩
    · simp [Instr.mapUpdate, run_underlying hm, MapKept.run_getObj_map hb, MapKept.run_checkKey hd hk, MapKept.run_findKey hd g1, hj, g3, MapKept.run_keyThatStays hk, MapKept.run_setObj_map _ hb, Result.andThen]
    · exact MapKept.stamped_modify h2 _ _ (fun _ _ => rfl) (fun e' _ he' => by rw [hj] at he'; cases he'; exact g3.symm)
    · obtain ⟨k, hk', e'⟩ := h3 e (Array.mem_toList_iff.2 (Array.mem_of_getElem? hj))
      rw [g3] at e'
      simp only [Value.int.injEq, true_and] at e'
      have : key = k := by omega
      rw [this]; exact hk'
/-- Tags in a map's block; their octets lie in the block sb. -/
structure TagMap (w : World) (sb r : Nat) (u : List (Nat × List UInt8)) : Prop where
  at_ : ∃ es clock, w.heap[r]? = some (.map es clock) ∧ Mapped es clock (u.map (·.1)) ∧ Jn (fun b => b = sb) w es (u.map fun kv => (kv.1, Vb kv.2))
  up : Vh u
theorem TagMap.keep {w w' : World} {S : Nat → Prop} {sb r : Nat} {u : List (Nat × List UInt8)} (h : TagMap w sb r u) (hc : Chg S w w') (hr : ¬ S r) (hs : ¬ S sb) (hsb : sb < w.heap.size) : TagMap w' sb r u := by
  obtain ⟨⟨es, clock, hb, hm, hk⟩, hu⟩ := h
  have hlt : r < w.heap.size := (Array.getElem?_eq_some_iff.1 hb).1
  exact ⟨⟨es, clock, (hc.block r hlt hr).trans hb, hm, Jn.mono (fun b hb => ⟨hb, by subst hb; exact hc.block b hsb hs⟩) es _ hk⟩, hu⟩
theorem src_rep {w : World} {sb : Nat} {v : Value} {s : List UInt8} (h : Jy w sb v s) : Rep (fun b => b = sb) w (Vb s) [v] := by
  simp only [Vb, Rep, List.length_map]
  rcases h with ⟨rfl, rfl⟩ | ⟨o, c, rfl, hle, hcs⟩
  · exact ⟨none, 0, rfl, Nat.le_refl _, .inl rfl⟩
  · exact ⟨_, c, rfl, hle, .inr ⟨sb, o, bv s, rfl, rfl, hcs, (Vq s _).2 rfl⟩⟩
theorem run_tagSet (hm : P.underlying mty = some (.map kt et)) (hd : P.underlying kt = some (.int .u32)) {sb : Nat} {u : List (Nat × List UInt8)} (h : TagMap w sb r u) (hne : r ≠ sb) (hsb : sb < w.heap.size) (key : Nat) {val : Value} {s : List UInt8} (hv : Jy w sb val s) :
    ∃ w', (Instr.mapUpdate mty (.map (some r)) (.int .u32 key) val).run P w = .ok () w' ∧ Chg (· = r) w w' ∧ w'.heap.size = w.heap.size ∧ TagMap w' sb r (Vo key s u) := by
  obtain ⟨⟨es, clock, hb, hmap, hk⟩, hu⟩ := h
  rw [JX] at hk
  have hk' : ∀ kv ∈ u, ∃ e ∈ es, e.key = .int .u32 kv.1 ∧ Rep (fun b => b = sb) w (Vb kv.2) [e.val] := fun kv hkv => hk (kv.1, Vb kv.2) (List.mem_map.2 ⟨kv, hkv, rfl⟩)
  obtain ⟨w', es', clock', hrun, hb', hc, hsz, hst, hcase⟩ := run_mapUpd hm hd hb hmap (fun k hk0 => by
    obtain ⟨kv, hkv, rfl⟩ := List.mem_map.1 hk0
    obtain ⟨e, he, h1, _⟩ := hk' kv hkv
    exact ⟨e, he, h1⟩) key val
  have keep : ∀ {d : D} {cs : List Value}, Rep (fun b => b = sb) w d cs → Rep (fun b => b = sb) w' d cs := fun hr => Rep.mono (fun b hb => ⟨hb, by subst hb; exact hc.block b hsb (fun e => hne e.symm)⟩) _ _ hr
  have hnew : Rep (fun b => b = sb) w' (Vb s) [val] := keep (src_rep hv)
  have hlen := Ya1 (k := key) (v := s) hu
  refine ⟨w', hrun, hc, hsz, ⟨⟨es', clock', hb', ⟨?_, hst, ?_, List.pairwise_map.2 (UC hu)⟩, ?_⟩, UC hu⟩⟩
  · rw [List.length_map, hlen]
    rcases hcase with ⟨hni, rfl⟩ | ⟨hin, j, e, _, _, rfl⟩
    · rw [if_neg hni, Array.size_push, hmap.1, List.length_map]
    · rw [if_pos hin, Array.size_modify, hmap.1, List.length_map]
  · intro e he
    rcases hcase with ⟨hni, rfl⟩ | ⟨hin, j, e0, hj, hj2, rfl⟩
    · simp only [Array.toList_push, List.mem_append, List.mem_singleton] at he
      rcases he with he | rfl
      · obtain ⟨k, hk0, e1⟩ := hmap.2.2.1 e he
        obtain ⟨kv, hkv, rfl⟩ := List.mem_map.1 hk0
        refine ⟨kv.1, List.mem_map.2 ⟨kv, (VH hu).2 (.inr ⟨hkv, fun e2 => hni (by rw [← e2]; exact hk0)⟩), rfl⟩, e1⟩
      · exact ⟨key, List.mem_map.2 ⟨(key, s), (VH hu).2 (.inl rfl), rfl⟩, rfl⟩
    · have hkeys := MapKept.modify_keys (es := es) j (fun e => { e with key := .int .u32 key, val := val }) (fun e' he' => by rw [hj] at he'; cases he'; exact hj2.symm)
      have : e.key ∈ (es.modify j fun e => { e with key := .int .u32 key, val := val }).toList.map (·.key) := List.mem_map.2 ⟨e, he, rfl⟩
      rw [hkeys] at this
      obtain ⟨y, hy, e1⟩ := List.mem_map.1 this
      obtain ⟨k, hk0, e2⟩ := hmap.2.2.1 y hy
      obtain ⟨kv, hkv, rfl⟩ := List.mem_map.1 hk0
      by_cases hkk : kv.1 = key
      · exact ⟨key, List.mem_map.2 ⟨(key, s), (VH hu).2 (.inl rfl), rfl⟩, by rw [← e1, e2, hkk]⟩
      · exact ⟨kv.1, List.mem_map.2 ⟨kv, (VH hu).2 (.inr ⟨hkv, hkk⟩), rfl⟩, by rw [← e1, e2]⟩
  · rw [JX]
    intro kvd hkvd
    obtain ⟨kv, hkv, rfl⟩ := List.mem_map.1 hkvd
    rcases (VH hu).1 hkv with rfl | ⟨hold, hkne⟩
    · rcases hcase with ⟨hni, rfl⟩ | ⟨hin, j, e0, hj, hj2, rfl⟩
      · exact ⟨_, Array.mem_push_self, rfl, hnew⟩
      · refine ⟨{ e0 with key := .int .u32 key, val := val }, ?_, rfl, hnew⟩
        have hlt := (Array.getElem?_eq_some_iff.1 hj).1
        refine Array.mem_of_getElem? (i := j) ?_
        rw [Array.getElem?_modify, if_pos rfl, hj]; rfl
    · obtain ⟨e, he, h1, h2⟩ := hk' kv hold
      rcases hcase with ⟨hni, rfl⟩ | ⟨hin, j, e0, hj, hj2, rfl⟩
      · exact ⟨e, Array.mem_push_of_mem _ he, h1, keep h2⟩
      · obtain ⟨i, hi⟩ := Array.mem_iff_getElem?.1 he
        have hij : j ≠ i := by
          rintro rfl
          rw [hj] at hi
          simp only [Option.some.injEq] at hi
          subst hi
          rw [hj2] at h1
          simp only [Value.int.injEq, true_and] at h1
          exact hkne (by omega)
        refine ⟨e, Array.mem_of_getElem? (i := i) ?_, h1, keep h2⟩
        rw [Array.getElem?_modify, if_neg hij]; exact hi
/-- A map with no entry yet. -/
theorem tagMap_new (w : World) (sb : Nat) : TagMap (w.alloc (.map #[] 0)) sb w.heap.size [] := ⟨⟨#[], 0, heap_alloc_new w _, ⟨rfl, MapKept.stamped_empty 0, by simp, by simp⟩, by simp [Jn]⟩, by simp [Vh]⟩
theorem TagMap.rep {w : World} {sb r lo : Nat} {u : List (Nat × List UInt8)} (h : TagMap w sb r u) (hr : lo ≤ r) (hsb : sb < w.heap.size) : Rep (Dk sb lo w) w (Uz u) [.map (some r)] := by
  obtain ⟨⟨es, clock, hb, hm, hk⟩, hu⟩ := h
  have hlt : r < w.heap.size := (Array.getElem?_eq_some_iff.1 hb).1
  simp only [Uz, Rep]
  refine .inr ⟨r, es, clock, rfl, ⟨.inr hr, hlt⟩, hb, ?_, Jn.mono (fun b hb => ⟨by subst hb; exact ⟨.inl rfl, hsb⟩, rfl⟩) es _ hk⟩
  rw [List.map_map]
  exact hm
end
end Go.Proofs.YtgjplodgdgaakaaGreatDoor

/- Tags.Set, internalReadTags at the seat. -/
namespace Go.Proofs.YtgjplodgdgaakaaGreatDoor.Rdk
open Go Go.RowKit

set_option maxRecDepth 100000
section
variable {P : Program} {ops : Array Oper} {Q : Exit → Act → World → Prop} {N : Nat} {rest : List Oper} {L : Sl} {w : World} {d : Nat} {ty : TypeId} {pos : String} {aft : Array Edge}
theorem wl_mapNil {x : Operand} {t u : TypeId} {m : Option Nat} (hx : ev L x = some (.map m)) (ht : (match P.underlying t with | some (.map _ _) => true | _ => false) = true) (hd : Nat.blt d N = true) (h : WL rest P ops Q N ((d, .bool m.isNone) :: L) w) :
    WL (⟨some d, .binOp .eql t x (.const (.map none)) u, ty, pos, aft, none⟩ :: rest) P ops Q N L w := by
  intro a k
  split at ht
  · rename_i kt et hu
    refine YS (o := ⟨some d, .binOp .eql t x (.const (.map none)) u, ty, pos, aft, none⟩) (v := .bool m.isNone) (w' := w) rfl ?_ (h _ (k.put _ hd))
    simp only [execOp, k.eval hx, XJ]
    have h : ∀ d : Nat, (Op.equalIn (d + 1) t (.map m) (.map none)).run P w = .ok m.isNone w := fun d => by
      cases m <;> simp [Op.equalIn, run_underlying hu]
    simp only [eqGuard, binOp]
    simp [Op.equal, Op.maxDepth, h 9999]
  · cases ht
theorem wl_makeMap {t : TypeId} (hd : Nat.blt d N = true) (h : WL rest P ops Q N ((d, .map (some w.heap.size)) :: L) (w.alloc (.map #[] 0))) : WL (⟨some d, .makeMap t none, ty, pos, aft, none⟩ :: rest) P ops Q N L w := by
  intro a k
  refine YS (o := ⟨some d, .makeMap t none, ty, pos, aft, none⟩) (v := .map (some w.heap.size)) rfl ?_ (h _ (k.put _ hd))
  simp [execOp, run_makeMap]
theorem wl_mapUpd {x y z : Operand} {t : TypeId} {m kk v : Value} {w' : World} (hx : ev L x = some m) (hy : ev L y = some kk) (hz : ev L z = some v) (hr : (Instr.mapUpdate t m kk v).run P w = .ok () w') (h : WL rest P ops Q N L w') :
    WL (⟨none, .mapUpdate t x y z, ty, pos, aft, none⟩ :: rest) P ops Q N L w := by
  intro a k
  refine VX (o := ⟨none, .mapUpdate t x y z, ty, pos, aft, none⟩) (w' := w') rfl ?_ (h _ k)
  simp [execOp, k.eval hx, k.eval hy, k.eval hz, hr]
end
def tblT : Tbl := ⟨[(80, 0, 0)], []⟩
theorem tblT_ok : tblT.ok Tryz.prog = true := by kernel_rfl
theorem wt {ops : Array Oper} {Q : Exit → Act → World → Prop} {N : Nat} {rest : List Oper} {L : Sl} {w : World} {d : Nat} {ty : TypeId} {pos : String} {aft : Array Edge} {o : Op} {v : Value}
    (hs : Yl9 tblT L o = some v) (hd : Nat.blt d N = true) (h : WL rest Tryz.prog ops Q N ((d, v) :: L) w) : WL (⟨some d, o, ty, pos, aft, none⟩ :: rest) Tryz.prog ops Q N L w := wl_step tblT tblT_ok hs hd h
theorem um : Tryz.prog.underlying 78 = some (.map 71 24) := by kernel_rfl
theorem uk : Tryz.prog.underlying 71 = some (.int .u32) := by kernel_rfl
theorem to_map : XR Tryz.prog 78 = true := by kernel_rfl
theorem zv_tags (w : World) : (zeroValue 80).run Tryz.prog w = .ok (.agg #[.map none]) w := by kernel_rfl
theorem ta_tags : Us Tryz.prog 80 = some 1 := by kernel_rfl
theorem tz_tags : (Tryz.prog.info? 80).map (·.size) = some 1 := by kernel_rfl
/-- What a Tags' cell says. -/
def Yk5 (w : World) (sb lo : Nat) (m : Value) (u : List (Nat × List UInt8)) : Prop := (m = .map none ∧ u = []) ∨ ∃ r, m = .map (some r) ∧ lo ≤ r ∧ TagMap w sb r u
theorem Yk5.keep {w w' : World} {S : Nat → Prop} {sb lo : Nat} {m : Value} {u : List (Nat × List UInt8)} (h : Yk5 w sb lo m u) (hc : Chg S w w') (hr : ∀ r, lo ≤ r → r < w.heap.size → ¬ S r) (hs : ¬ S sb) (hsb : sb < w.heap.size) : Yk5 w' sb lo m u := by
  rcases h with h | ⟨r, rfl, hlo, ht⟩
  · exact .inl h
  · have hlt : r < w.heap.size := by
      obtain ⟨⟨es, clock, hb, _⟩, _⟩ := ht
      exact (Array.getElem?_eq_some_iff.1 hb).1
    exact .inr ⟨r, rfl, hlo, ht.keep hc (hr r hlo hlt) hs hsb⟩
theorem fn_set (w : World) (tb sb lo key : Nat) (val m : Value) (u : List (Nat × List UInt8)) (e : TypeId) (s : List UInt8) (hb : Box w tb [m] e) (ht : Yk5 w sb lo m u) (hv : Jy w sb val s) (h1 : tb < lo) (h2 : sb < lo) (h3 : lo ≤ w.heap.size) (h4 : tb ≠ sb) :
    Calls Tryz.prog 153 #[.pointer (some ⟨tb, 0, none⟩), .int .u32 key, val] w fun en w' => en = .returned (.tuple #[]) ∧ ∃ m', Box w' tb [m'] e ∧ Yk5 w' sb lo m' (Vo key s u) ∧ Chg (fun j => j = tb ∨ lo ≤ j) w w' := by
  refine enter Tryz.func153 rfl Tryz.ntmps153 rfl ?_
  have upd : ∀ (w1 : World) (r : Nat) (u1 : List (Nat × List UInt8)), Box w1 tb [.map (some r)] e → lo ≤ r → TagMap w1 sb r u1 → Jy w1 sb val s → sb < w1.heap.size → Chg (fun j => j = tb ∨ lo ≤ j) w w1 → Vo key s u1 = Vo key s u →
      ∃ w', (Instr.mapUpdate 78 (.map (some r)) (.int .u32 key) val).run Tryz.prog w1 = .ok () w' ∧ (∃ m', Box w' tb [m'] e ∧ Yk5 w' sb lo m' (Vo key s u) ∧ Chg (fun j => j = tb ∨ lo ≤ j) w w') := by
    intro w1 r u1 hb1 hr htm hv1 hsb hc heq
    obtain ⟨w', hrun, hc', _, ht'⟩ := run_tagSet um uk htm (by omega) hsb key hv1
    exact ⟨w', hrun, _, hb1.chg hc' (by show tb ≠ r; omega), .inr ⟨r, rfl, hr, by rw [← heq]; exact ht'⟩, hc.trans (hc'.wide (fun j hj => .inr (by have : j = r := hj; omega)))⟩
  rcases ht with ⟨rfl, rfl⟩ | ⟨r, rfl, hr, htm⟩
  · refine Yk (Yk (Yd ?_))
    refine wt rfl rfl ?_
    refine wt rfl rfl ?_
    refine wt rfl rfl ?_
    refine Yv rfl to_map rfl hb rfl ?_
    refine wl_mapNil rfl (by kernel_rfl) rfl ?_
    refine Ym (Yj (Yz rfl rfl (Yd ?_)))
    refine wt rfl rfl ?_
    refine wl_makeMap rfl ?_
    have hal : Chg (fun _ => False) w (w.alloc (.map #[] 0)) := Uf w _ _
    have hnew := tagMap_new w sb
    have hb1 := hb.chg hal id
    have hs1 : (w.alloc (.map #[] 0)).heap.size = w.heap.size + 1 := by simp
    have hv1 := hv.chg hal id
    generalize w.alloc (.map #[] 0) = w1 at *
    refine wt rfl rfl ?_
    refine wt rfl rfl ?_
    refine YJ rfl rfl to_map rfl hb1 rfl (fun w2 hb2 hg2 hs2 => ?_)
    have hc2 := Chg.grown hg2
    have hne : ∀ j : Nat, (fun j => j = tb) j → j ≠ w.heap.size := fun j hj => by have : j = tb := hj; omega
    obtain ⟨w3, hrun, m', hb3, ht3, hc3⟩ := upd w2 w.heap.size [] hb2 h3 (hnew.keep hc2 (fun e => by have : w.heap.size = tb := e; omega) (fun e => h4 e.symm) (by omega)) (hv1.chg hc2 (fun e => h4 e.symm)) (by omega) ((hal.wide (fun _ h => h.elim)).trans (hc2.wide (fun j hj => .inl hj))) rfl
    refine Ym (Yj (Yd ?_))
    refine wt rfl rfl ?_
    refine wt rfl rfl ?_
    refine wt rfl rfl ?_
    refine Yv rfl to_map rfl hb2 rfl ?_
    refine wt rfl rfl ?_
    refine wt rfl rfl ?_
    refine wl_mapUpd rfl rfl rfl hrun ?_
    exact Ym (JA rfl ⟨rfl, m', hb3, ht3, hc3⟩)
  · obtain ⟨w3, hrun, m', hb3, ht3, hc3⟩ := upd w r u hb hr htm hv (by omega) (Chg.refl _ _) rfl
    refine Yk (Yk (Yd ?_))
    refine wt rfl rfl ?_
    refine wt rfl rfl ?_
    refine wt rfl rfl ?_
    refine Yv rfl to_map rfl hb rfl ?_
    refine wl_mapNil rfl (by kernel_rfl) rfl ?_
    refine Ym (Yj (YE rfl rfl (Yi (Yj (Yd ?_)))))
    refine wt rfl rfl ?_
    refine wt rfl rfl ?_
    refine wt rfl rfl ?_
    refine Yv rfl to_map rfl hb rfl ?_
    refine wt rfl rfl ?_
    refine wt rfl rfl ?_
    refine wl_mapUpd rfl rfl rfl hrun ?_
    exact Ym (JA rfl ⟨rfl, m', hb3, ht3, hc3⟩)
end Go.Proofs.YtgjplodgdgaakaaGreatDoor.Rdk

/- Tags.Len at the seat. -/
namespace Go.Proofs.YtgjplodgdgaakaaGreatDoor.Rdk
open Go Go.RowKit

theorem run_lenMap {P : Program} {t ty kt et : TypeId} (w : World) (m : Option Nat) (n : Nat) (h : P.underlying t = some (.map kt et)) (hm : (m = none ∧ n = 0) ∨ ∃ r es clock, m = some r ∧ w.heap[r]? = some (.map es clock) ∧ es.size = n) :
    (Builtin.len_ #[t] ty #[.map m]).run P w = .ok (.int .i64 (n : Int)) w := by
  rcases hm with ⟨rfl, rfl⟩ | ⟨r, es, clock, rfl, hb, rfl⟩
  · simp [Builtin.len_, run_underlying h, goInt]
  · simp [Builtin.len_, run_underlying h, MapKept.run_getObj_map hb, goInt]
theorem mp_len {ok : Nat → Prop} {w : World} {kvs : List (Nat × D)} {v : Value} (h : Rep ok w (.mp kvs) [v]) : ∃ m, v = .map m ∧ ((m = none ∧ kvs.length = 0) ∨ ∃ r es clock, m = some r ∧ w.heap[r]? = some (.map es clock) ∧ es.size = kvs.length) := by
  simp only [Rep] at h
  rcases h with ⟨e, rfl⟩ | ⟨r, es, clock, e, _, hb, hm, _⟩
  · simp only [List.cons.injEq, and_true] at e
    exact ⟨none, e, .inl ⟨rfl, rfl⟩⟩
  · simp only [List.cons.injEq, and_true] at e
    exact ⟨some r, e, .inr ⟨r, es, clock, rfl, hb, by rw [hm.1, List.length_map]⟩⟩
section
variable {P : Program} {ops : Array Oper} {Q : Exit → Act → World → Prop} {N : Nat} {rest : List Oper} {L : Sl} {w : World} {d : Nat} {ty : TypeId} {pos : String} {aft : Array Edge}
theorem Yi1 {x : Operand} {t kt et : TypeId} {m : Option Nat} {n : Nat} (hx : ev L x = some (.map m)) (hu : P.underlying t = some (.map kt et)) (hm : (m = none ∧ n = 0) ∨ ∃ r es clock, m = some r ∧ w.heap[r]? = some (.map es clock) ∧ es.size = n) (hd : Nat.blt d N = true)
    (h : WL rest P ops Q N ((d, .int .i64 (n : Int)) :: L) w) : WL (⟨some d, .call ⟨.builtin .len, #[x], #[t]⟩, ty, pos, aft, none⟩ :: rest) P ops Q N L w := by
  intro a k
  refine YS (o := ⟨some d, .call ⟨.builtin .len, #[x], #[t]⟩, ty, pos, aft, none⟩) rfl ?_ (h _ (k.put _ hd))
  simp [execOp, resolve, k.eval hx, invoke, builtin, run_lenMap w m n hu hm]
end
theorem tlenOk (teach : Nat) (ver : Int) : Yj9 Tryz.prog (kt 187 teach ver) := by
  intro B w b off kvs v _ hc hr
  obtain ⟨m, rfl, hm⟩ := mp_len hr
  refine enter Tryz.func187 rfl Tryz.ntmps187 rfl ?_
  refine Yk (Yd (YB rfl rfl (Ym (Yj ?_))))
  refine Yk (Yd ?_)
  refine wt rfl rfl ?_
  refine wt rfl rfl ?_
  refine wt rfl rfl ?_
  refine Xs rfl to_map rfl hc ?_
  refine Yi1 rfl um hm rfl ?_
  refine wt rfl rfl ?_
  exact Ym (Yj (Yn (Yt rfl rfl ⟨rfl, rfl⟩)))
end Go.Proofs.YtgjplodgdgaakaaGreatDoor.Rdk

/- The library's sort.Slice at the seat, on a row of 32-bit numbers that the call owns. -/
namespace Go.Proofs.YtgjplodgdgaakaaGreatDoor.Rdk
open Go Go.RowKit Go.Sort Go.Lib Go.Shelf

set_option maxRecDepth 100000
noncomputable def siT : TypeInfo := (Tryz.prog.info? 224).get (by kernel_rfl)
noncomputable def siE : TypeInfo := (Tryz.prog.info? 71).get (by kernel_rfl)
theorem siK (n : Nat) (h2 : 2 ≤ n) : Lib.swapperK n siE 10 = 6 := by
  have a : siE.hasPointers = false := by kernel_rfl
  have b : siE.bytes = 4 := by kernel_rfl
  have c : (n == 0) = false := by simp; omega
  have d : (n == 1) = false := by simp; omega
  simp [Lib.swapperK, a, b, c, d]
set_option maxHeartbeats 2000000 in
theorem less_u32 (blk off c Bs size : Nat) (W : World) (G : Nat → Int) (hs : W.cell? ⟨Bs, 0, none⟩ = some (.slice (some ⟨blk, off, none⟩) size c))
    (hc : ∀ t, t < size → W.cell? ⟨blk, off + t, none⟩ = some (.int .u32 (G t))) (i j : Nat) (hi : i < size) (hj : j < size) :
    Calls Tryz.prog 194 #[.int .i64 i, .int .i64 j, .pointer (some ⟨Bs, 0, none⟩)] W fun e w' => e = .returned (.bool (decide (G i < G j))) ∧ ∃ q, w' = W.drewN q := by
  have ci := hc i hi
  have cj := hc j hj
  go_enter Tryz.func194, Tryz.ntmps194
  go_wp2
  go_quiet (fail)
  go_wp2
  go_ret
  exact ⟨rfl, nq, rfl⟩
abbrev encU : Int → Value := Value.int .u32
theorem holds_row {w : World} {B blk cap : Nat} {e : TypeId} {zs : List Int} (h : w.ownsRow B e 1 (.slice (some ⟨blk, 0, none⟩) zs.length cap) zs.length (zs.map encU)) : Holds encU w blk 0 zs.toArray := by
  obtain ⟨_, ⟨he, _⟩ | ⟨g, cap', cur, he, _, hheap, hle, hcap, hcs, htake⟩⟩ := h
  · cases he
  · cases he
    intro j hj
    have hj' : j < zs.length := by simpa using hj
    have hx : cur[j]? = some (encU zs[j]) := by
      have : (cur.toList.take (zs.length * 1))[j]? = some (encU zs[j]) := by rw [htake]; simp [hj']
      rw [List.getElem?_take] at this
      split at this
      · simpa using this
      · cases this
    refine ⟨?_, by simp [World.frozen?, hheap]⟩
    rw [show (zs.toArray)[j]! = zs[j] by simp [hj']]
    simp [World.cell?, hheap, hx]
theorem sorted_row {w w' : World} {blk n : Nat} {cur : Array Value} {e : TypeId} {d' : Array Int} {os : Array Obj} (hb : w.heap[blk]? = some (.cells cur e (0, 0))) (hsz : d'.size ≤ cur.size) (hw : w' = grow (putRow encU (Sort.ahead w n) blk 0 d') os) :
    YN w' blk 0 (d'.toList.map encU) ∧ Chg (· = blk) w w' := by
  subst hw
  have hlt : blk < w.heap.size := (Array.getElem?_eq_some_iff.1 hb).1
  have hbl : (putRow encU (Sort.ahead w n) blk 0 d').heap[blk]? = some (.cells (putCells encU 0 d' cur) e (0, 0)) := by
    simp [putRow, mapBlock, Sort.ahead, Array.getElem?_modify, hb, onCells]
  constructor
  · refine ⟨putCells encU 0 d' cur, e, (0, 0), by rw [heap_grow_old _ _ (by simpa using hlt)]; exact hbl, by simp [putCells]; omega, fun i v hv => ?_⟩
    rw [List.getElem?_map] at hv
    have hi : i < d'.size := by
      cases hx : d'.toList[i]? with
      | none => rw [hx] at hv; cases hv
      | some x => simpa using (List.getElem?_eq_some_iff.1 hx).1
    simp only [Array.getElem?_toList, Array.getElem?_eq_getElem hi, Option.map_some, Option.some.injEq] at hv
    have hic : i < cur.size := by omega
    simp only [Nat.zero_add, putCells, Array.getElem?_mapIdx, Array.getElem?_eq_getElem hic, Option.map_some, Nat.zero_le, true_and, if_pos hi, Nat.sub_zero]
    rw [getElem!_pos d' i hi, hv]
  · refine ⟨rfl, rfl, rfl, by simp, fun k hk hne => ?_⟩
    rw [heap_grow_old _ _ (by simpa using hk)]
    have : blk ≠ k := fun e => hne e.symm
    simp [putRow, mapBlock, Sort.ahead, Array.getElem?_modify, this]
theorem tiny_sorted : ∀ (zs : List Int), zs.length ≤ 1 → zs.Pairwise (fun x y => x ≤ y)
  | [], _ => List.Pairwise.nil
  | [_], _ => List.pairwise_singleton _ _
theorem fn_sortTiny (p : Option Addr) (n c : Nat) (h1 : n ≤ 1) (Bs : Nat) (w : World) :
    Calls Tryz.prog 193 #[.iface 224 (.slice p n c), .func (.func 194) #[] #[.pointer (some ⟨Bs, 0, none⟩)]] w fun e w' => e = .returned (.tuple #[]) ∧ ∃ os, w' = grow w os := by
  have hK : Lib.swapperK n siE 10 = n + 1 := by
    rcases Nat.eq_zero_or_pos n with h | h
    · subst h; simp [Lib.swapperK]
    · obtain rfl : n = 1 := by omega
      simp [Lib.swapperK]
  exact Any.sort_Slice_tiny Tryz.gl6 224 71 siT siE (by kernel_rfl) (by kernel_rfl) (by kernel_rfl) (by kernel_rfl) 10 (fun _ => by kernel_rfl) p n c h1 (200 + n) (by
    rw [hK]
    rcases Nat.eq_zero_or_pos n with h | h
    · subst h; kernel_rfl
    · obtain rfl : n = 1 := by omega
      kernel_rfl) (.func 194) #[] #[.pointer (some ⟨Bs, 0, none⟩)] w
set_option maxHeartbeats 2000000 in
theorem fn_sort (w : World) (B blk cap Bs : Nat) (e0 : TypeId) (zs : List Int) (hlen : zs.length < 4611686018427387904) (hbs : Box w Bs [.slice (some ⟨blk, 0, none⟩) zs.length cap] e0)
    (hrow : w.ownsRow B 71 1 (.slice (some ⟨blk, 0, none⟩) zs.length cap) zs.length (zs.map encU)) (hne : Bs ≠ blk) :
    Calls Tryz.prog 193 #[.iface 224 (.slice (some ⟨blk, 0, none⟩) zs.length cap), .func (.func 194) #[] #[.pointer (some ⟨Bs, 0, none⟩)]] w fun e w' =>
      e = .returned (.tuple #[]) ∧ ∃ zs' : List Int, zs'.Perm zs ∧ zs'.Pairwise (fun x y => x ≤ y) ∧ YN w' blk 0 (zs'.map encU) ∧ Chg (· = blk) w w' := by
  have hH := holds_row hrow
  obtain ⟨hxl, ⟨he, _⟩ | ⟨g, cap', cur, he, hBg, hheap, hle, hcap, hcs, htake⟩⟩ := id hrow
  · cases he
  cases he
  have hblk : blk < w.heap.size := (Array.getElem?_eq_some_iff.1 hheap).1
  have hsz : zs.toArray.size = zs.length := by simp
  by_cases h2 : 2 ≤ zs.length
  · have hless : LessReads Tryz.prog 194 #[.pointer (some ⟨Bs, 0, none⟩)] encU ltInt blk 0 zs.toArray.size w := by
      intro m os dk hs i j hi hj
      rw [hsz] at hs hi hj
      refine less_u32 blk 0 cap Bs zs.length _ (fun t => dk[t]!) ?_ (fun t ht => ?_) i j hi hj
      · unfold sortWorld
        rw [cell?_grow _ _ _ (by simpa using hbs.lt), cell?_putRow_other _ _ blk 0 dk _ (Or.inl hne)]
        exact hbs.cell (i := 0) rfl
      · unfold sortWorld
        rw [cell?_grow _ _ _ (by simpa using hblk)]
        exact cell?_putRow encU (Sort.ahead w m) blk 0 zs.toArray dk (holds_ahead _ _ _ _ _ _ hH) (by rw [hs, hsz]) t (by omega)
    have hS := Any.sort_Slice_sorted Tryz.gl6 224 71 siT siE (by kernel_rfl) (by kernel_rfl) (by kernel_rfl) (by kernel_rfl) 10 (fun _ => by kernel_rfl) (by kernel_rfl) (fun _ => by kernel_rfl) encU (fun _ => rfl) ltInt swo_ltInt 194 _
      (enters_of Tryz.func194 (by kernel_rfl) rfl) blk 0 cap zs.toArray (by rw [hsz]; exact h2) (by rw [hsz]; exact hlen) 205 (by rw [hsz, siK _ h2]; kernel_rfl) true
      (fun args W => run_callFunc_extern Tryz.func205 (by kernel_rfl) (by kernel_rfl) (by kernel_rfl) (e := Extern.ReflectliteSwapper.swap true) (by kernel_rfl) args W) w hless hH hblk
    change Calls Tryz.prog 193 _ _ _ at hS
    rw [hsz] at hS
    refine hS.mono (fun e w' h => ?_)
    obtain ⟨h1, d', n, os, hp, hso, hw⟩ := h
    have hd : d'.size = zs.length := by rw [hp.1, hsz]
    refine ⟨h1, d'.toList, ?_, ?_, ?_⟩
    · have := hp.2.2
      rw [← hd] at this
      have e1 : d'.toList.take zs.length = d'.toList := List.take_of_length_le (by simp; omega)
      simpa [hd, e1] using this
    · rw [List.pairwise_iff_getElem]
      intro i j hi hj hij
      have hi' : i < d'.size := by simpa using hi
      have hj' : j < d'.size := by simpa using hj
      have := hso i j (Nat.zero_le _) hij (by omega)
      rw [getElem!_pos d' i hi', getElem!_pos d' j hj'] at this
      simp only [ltInt, decide_eq_false_iff_not] at this
      simp only [Array.getElem_toList]
      omega
    · exact sorted_row hheap (by rw [hcs, hd]; omega) hw
  · have hn : zs.length ≤ 1 := by omega
    have hS := fn_sortTiny (some ⟨blk, 0, none⟩) zs.length cap hn Bs w
    refine hS.mono (fun e w' h => ?_)
    obtain ⟨h1, os, hw⟩ := h
    refine ⟨h1, zs, List.Perm.refl _, ?_, ?_⟩
    · exact tiny_sorted zs hn
    · subst hw
      refine ⟨⟨cur, 71, (0, 0), by rw [heap_grow_old _ _ hblk]; exact hheap, by rw [List.length_map]; omega, fun i v hv => ?_⟩, ⟨rfl, rfl, rfl, by simp, fun k hk _ => heap_grow_old _ _ hk⟩⟩
      rw [← htake, List.getElem?_take] at hv
      split at hv
      · simpa using hv
      · cases hv
end Go.Proofs.YtgjplodgdgaakaaGreatDoor.Rdk

/- Ranging over tags in a map, by rising numbers: the rules that this wants, and the plain facts. Over any program. -/
namespace Go.Proofs.YtgjplodgdgaakaaGreatDoor
open Go Go.RowKit

section
variable {P : Program} {ops : Array Oper} {Q : Exit → Act → World → Prop} {N : Nat} {rest : List Oper} {L : Sl} {w : World} {d : Nat} {ty : TypeId} {pos : String} {aft : Array Edge}
/-- A call of a function value. -/
theorem wl_callV {x : Operand} {f : FuncId} {bs vs : List Value} {args : List Operand} {ats : Array TypeId} (hx : ev L x = some (.func (.func f) #[] bs.toArray)) (ha : evs L args = some vs) (hf : Ut P f = true) (hd : Nat.blt d N = true)
    (hc : Calls P f (vs ++ bs).toArray w fun e w' => ∃ v, e = .returned v ∧ WL rest P ops Q N ((d, v) :: L) w') :
    WL (⟨some d, .call ⟨.value x, args.toArray, ats⟩, ty, pos, aft, none⟩ :: rest) P ops Q N L w := by
  intro a k
  refine wpList_plain rfl (fun K hK => ?_)
  unfold Oper.wp
  have hargs : args.toArray.map a.eval = vs.toArray := by rw [List.map_toArray, k.evals ha]
  have hr : (execOp a.eval ⟨some d, .call ⟨.value x, args.toArray, ats⟩, ty, pos, aft, none⟩).run P w = .ok (.enter f (vs ++ bs).toArray) w := by
    unfold Ut at hf
    cases hfn : P.funcs[f]? with
    | none => simp [hfn] at hf
    | some fn =>
      simp [hfn] at hf
      have h2 : fn.body ≠ none := by intro e; simp [e] at hf
      have h3 := hf.1
      simp only [execOp, resolve, Deferred.ofValue, k.eval hx, hargs, Sem.run_bind, Sem.run_pure, Result.andThen_ok, invoke, callFunc, run_program, hfn]
      simp [h3, h2]
  rw [hr]
  refine hc.mono (fun e w' he => ?_)
  obtain ⟨v, rfl, hv⟩ := he
  exact hK _ _ (hv _ (k.put v hd))
theorem JC {f : FuncId} {caps : List Operand} {vs : List Value} (ha : evs L caps = some vs) (hd : Nat.blt d N = true) (h : WL rest P ops Q N ((d, .func (.func f) #[] vs.toArray) :: L) w) :
    WL (⟨some d, .makeFunc (.func f) #[] caps.toArray, ty, pos, aft, none⟩ :: rest) P ops Q N L w := by
  intro a k
  refine YS (o := ⟨some d, .makeFunc (.func f) #[] caps.toArray, ty, pos, aft, none⟩) (v := .func (.func f) #[] vs.toArray) (w' := w) rfl ?_ (h _ (k.put _ hd))
  have hargs : caps.toArray.map a.eval = vs.toArray := by rw [List.map_toArray, k.evals ha]
  simp [execOp, Instr.makeFunc, hargs]
theorem wl_makeIface {x : Operand} {t e : TypeId} {v : Value} (hx : ev L x = some v) (hu : P.underlying t = some (.slice e)) (hd : Nat.blt d N = true) (h : WL rest P ops Q N ((d, .iface t v) :: L) w) :
    WL (⟨some d, .makeInterface t x, ty, pos, aft, none⟩ :: rest) P ops Q N L w := by
  intro a k
  refine YS (o := ⟨some d, .makeInterface t x, ty, pos, aft, none⟩) (v := .iface t v) (w' := w) rfl ?_ (h _ (k.put _ hd))
  simp [execOp, Instr.makeInterface, run_underlying hu, k.eval hx]
theorem wl_extract {x : Operand} {i : Nat} {vs : Array Value} {v : Value} (hx : ev L x = some (.tuple vs)) (hv : vs[i]? = some v) (hd : Nat.blt d N = true) (h : WL rest P ops Q N ((d, v) :: L) w) :
    WL (⟨some d, .extract x i, ty, pos, aft, none⟩ :: rest) P ops Q N L w := by
  intro a k
  refine YS (o := ⟨some d, .extract x i, ty, pos, aft, none⟩) (v := v) (w' := w) rfl ?_ (h _ (k.put _ hd))
  simp [execOp, Instr.extract, k.eval hx, hv]
theorem wl_range {x : Operand} {t kt et bm clock : Nat} {es : Array MapEntry} (hx : ev L x = some (.map (some bm))) (hu : P.underlying t = some (.map kt et)) (hb : w.heap[bm]? = some (.map es clock)) (hd : Nat.blt d N = true)
    (h : WL rest P ops Q N ((d, .pointer (some ⟨w.heap.size, 0, none⟩)) :: L) (w.alloc (.mapIter (some bm) clock #[] clock))) : WL (⟨some d, .range t x, ty, pos, aft, none⟩ :: rest) P ops Q N L w := by
  intro a k
  refine YS (o := ⟨some d, .range t x, ty, pos, aft, none⟩) (v := .pointer (some ⟨w.heap.size, 0, none⟩)) (w' := w.alloc (.mapIter (some bm) clock #[] clock)) rfl ?_ (h _ (k.put _ hd))
  simp [execOp, k.eval hx, run_range_map w t kt et bm es clock hu hb]
theorem wl_next {x : Operand} {r bm since c0 clock : Nat} {seen : Array Nat} {es : Array MapEntry} (hx : ev L x = some (.pointer (some ⟨r, 0, none⟩))) (hr : w.heap[r]? = some (.mapIter (some bm) since seen c0)) (hb : w.heap[bm]? = some (.map es clock)) (hold : ∀ x ∈ es.toList, x.born < since) (hsc : since ≤ c0) (hd : Nat.blt d N = true)
    (h0 : (leftOf es seen).size = 0 → WL rest P ops Q N ((d, .tuple #[.bool false]) :: L) w)
    (h1 : ∀ e ∈ (leftOf es seen).toList, ∀ w', w'.heap[r]? = some (.mapIter (some bm) since (seen.push e.born) clock) → Chg (· = r) w w' → w'.heap.size = w.heap.size → WL rest P ops Q N ((d, .tuple #[.bool true, e.key, e.val]) :: L) w') :
    WL (⟨some d, .next x false, ty, pos, aft, none⟩ :: rest) P ops Q N L w := by
  intro a k
  have hlt : r < w.heap.size := (Array.getElem?_eq_some_iff.1 hr).1
  rcases run_next_at (P := P) w ty r bm since c0 seen es clock hr hb hold hsc with ⟨hz, hrun⟩ | ⟨e, he, w1, hw1, hrun⟩
  · refine YS (o := ⟨some d, .next x false, ty, pos, aft, none⟩) (v := .tuple #[.bool false]) (w' := w) rfl ?_ (h0 hz _ (k.put _ hd))
    simp [execOp, k.eval hx, hrun]
  · refine YS (o := ⟨some d, .next x false, ty, pos, aft, none⟩) (v := .tuple #[.bool true, e.key, e.val]) (w' := Go.ChangeMaps.setBlock w1 r (.mapIter (some bm) since (seen.push e.born) clock)) rfl ?_ (h1 e he _ ?_ ?_ ?_ _ (k.put _ hd))
    · simp [execOp, k.eval hx, hrun]
    · rcases hw1 with rfl | rfl <;> simp [Go.ChangeMaps.setBlock, hlt]
    · rcases hw1 with rfl | rfl <;> exact ⟨rfl, rfl, rfl, by simp [Go.ChangeMaps.setBlock], fun j _ hn => by
        have : r ≠ j := fun e => hn e.symm
        simp [Go.ChangeMaps.setBlock, this] <;> rfl⟩
    · rcases hw1 with rfl | rfl <;> simp [Go.ChangeMaps.setBlock]
theorem wl_entry {x : Operand} {r bm since clock : Nat} {seen : Array Nat} {es : Array MapEntry} {e : MapEntry} (hx : ev L x = some (.pointer (some ⟨r, 0, none⟩))) (hr : w.heap[r]? = some (.mapIter (some bm) since (seen.push e.born) clock)) (hb : w.heap[bm]? = some (.map es clock)) (he : e ∈ es.toList) (hn : (es.toList.map (·.born)).Nodup) (hd : Nat.blt d N = true)
    (h : WL rest P ops Q N ((d, .tuple #[e.key, e.val]) :: L) w) : WL (⟨some d, .entry x, ty, pos, aft, none⟩ :: rest) P ops Q N L w := by
  intro a k
  refine YS (o := ⟨some d, .entry x, ty, pos, aft, none⟩) (v := .tuple #[e.key, e.val]) (w' := w) rfl ?_ (h _ (k.put _ hd))
  simp [execOp, k.eval hx, run_entry_at w r bm since seen es clock e hr hb he hn]
/-- A row with room for n elements, none in it yet. -/
theorem wl_makeRow {t e sz B n : Nat} {kl kc : IntKind} {x : Operand} (hT : Yc0 P t e sz = true) (hx : ev L x = some (.int kc (n : Int))) (hn : n ≤ many) (hd : Nat.blt d N = true) (hB : B ≤ w.heap.size)
    (h : ∀ w', w'.ownsRow B e sz (.slice (some ⟨w.heap.size, 0, none⟩) 0 n) 0 [] → w.grownBy w' none → w'.heap.size = w.heap.size + 1 → WL rest P ops Q N ((d, .slice (some ⟨w.heap.size, 0, none⟩) 0 n) :: L) w') :
    WL (⟨some d, .makeSlice t (.const (.int kl 0)) x, ty, pos, aft, none⟩ :: rest) P ops Q N L w := by
  intro a k
  obtain ⟨hu, i, z, hi, hs1, hb1, hz, hzc⟩ := JV hT
  have hm : i.bytes * n ≤ 281474976710656 := by have := Nat.mul_le_mul hb1 hn; simp only [many] at this; omega
  have h63 : n ≤ maxLen := by simp only [many, maxLen] at *; omega
  have h63' : (n : Int) ≤ 9223372036854775807 := by simp only [maxLen] at h63; omega
  have hb' : (i.bytes : Int) * (n : Int) ≤ 281474976710656 := by
    have h : ((i.bytes * n : Nat) : Int) ≤ 281474976710656 := by omega
    rwa [Int.natCast_mul] at h
  have hr := run_make (P := P) w t e i z hu hi hz kl kc 0 n (Int.le_refl _) (by omega) hb' h63'
  simp only [Int.toNat_zero, Int.toNat_natCast] at hr
  refine YS (o := ⟨some d, .makeSlice t (.const (.int kl 0)) x, ty, pos, aft, none⟩) (w' := w.alloc (.cells (madeCells z.cells (n * i.size)) e)) rfl ?_ (h _ (by rw [← hs1]; exact World.ownsRow_made w _ n hB h63 (size_madeCells _ _)) (World.grownBy_alloc w _ none) (by simp) _ (k.put _ hd))
  simp only [execOp, XJ, k.eval hx, Sem.run_bind, hr, Result.andThen_ok, Sem.run_pure]
/-- What lies under a key. -/
theorem wl_lookup {x y : Operand} {t kt et bm clock key : Nat} {es : Array MapEntry} {ks : List Nat} (hx : ev L x = some (.map (some bm))) (hy : ev L y = some (.int .u32 (key : Int))) (hu : P.underlying t = some (.map kt et)) (hk : P.underlying kt = some (.int .u32)) (hb : w.heap[bm]? = some (.map es clock)) (hm : Mapped es clock ks) (hin : ∃ e ∈ es, e.key = .int .u32 (key : Int)) (hd : Nat.blt d N = true)
    (h : ∀ e ∈ es, e.key = .int .u32 (key : Int) → WL rest P ops Q N ((d, e.val) :: L) w) : WL (⟨some d, .lookup t x y false, ty, pos, aft, none⟩ :: rest) P ops Q N L w := by
  intro a k
  have hik : MapKept.IsKey (.int .u32) (.int .u32 (key : Int)) := rfl
  have hks : ∀ x ∈ es.toList, MapKept.IsKey (.int .u32) x.key := fun x hx => by
    obtain ⟨k, _, e⟩ := hm.2.2.1 x hx
    rw [e]; rfl
  rcases MapKept.findNow_spec hik es.toList 0 hks with ⟨_, g2⟩ | ⟨j, e, g1, g2, g3⟩
  · obtain ⟨e, he, hek⟩ := hin
    exact absurd hek (g2 e (Array.mem_toList_iff.2 he))
  · have hj : es[j]? = some e := by simpa using g2
    refine YS (o := ⟨some d, .lookup t x y false, ty, pos, aft, none⟩) (v := e.val) (w' := w) rfl ?_ (h e (Array.mem_of_getElem? hj) g3 _ (k.put _ hd))
    simp [execOp, k.eval hx, k.eval hy, Instr.lookup, run_underlying hu, MapKept.run_getObj_map hb, MapKept.run_checkKey hk hik, MapKept.run_findKey hk g1, Result.andThen]
end

/-- Two rows with the same numbers, Yf3 rising, are one. -/
theorem sorted_one : ∀ (a b : List Int), a.Perm b → a.Pairwise (fun x y => x ≤ y) → b.Pairwise (fun x y => x ≤ y) → a = b
  | [], b, h, _, _ => (List.Perm.nil_eq h)
  | x :: a, [], h, _, _ => by have := h.length_eq; simp at this
  | x :: a, y :: b, h, ha, hb => by
    have ha' := List.pairwise_cons.1 ha
    have hb' := List.pairwise_cons.1 hb
    have hx : x ∈ y :: b := h.mem_iff.1 (by simp)
    have hy : y ∈ x :: a := h.mem_iff.2 (by simp)
    have e : x = y := by
      rcases List.mem_cons.1 hx with e | hx
      · exact e
      · rcases List.mem_cons.1 hy with e | hy
        · exact e.symm
        · have := hb'.1 x hx; have := ha'.1 y hy; omega
    subst e
    rw [sorted_one a b h.cons_inv ha'.2 hb'.2]
/-- A row in which nothing comes twice, Yl6 another no longer: the same. -/
theorem perm_sub {α : Type} [DecidableEq α] : ∀ (a b : List α), a.Nodup → (∀ x ∈ a, x ∈ b) → b.length ≤ a.length → a.Perm b
  | [], b, _, _, h => by
    have : b = [] := List.length_eq_zero_iff.1 (by simpa using h)
    subst this; exact List.Perm.refl _
  | x :: a, b, hn, hs, hl => by
    have hn' := List.nodup_cons.1 hn
    have hx : x ∈ b := hs x (by simp)
    have h1 := List.perm_cons_erase hx
    refine (List.Perm.cons x (perm_sub a (b.erase x) hn'.2 (fun y hy => ?_) ?_)).trans h1.symm
    · exact (List.mem_erase_of_ne (fun e => hn'.1 (by rw [← e]; exact hy))).2 (hs y (by simp [hy]))
    · rw [List.length_erase_of_mem hx]; simp at hl; omega
/-- One more entry has been handed out. -/
theorem leftOf_push {es : Array MapEntry} {seen : Array Nat} {e : MapEntry} (he : e ∈ (leftOf es seen).toList) (hn : (es.toList.map (·.born)).Nodup) : (leftOf es seen).toList.Perm (e :: (leftOf es (seen.push e.born)).toList) := by
  have h1 : (leftOf es (seen.push e.born)).toList = (leftOf es seen).toList.filter (fun x => x.born != e.born) := by
    simp only [leftOf, Array.toList_filter, List.filter_filter]
    apply List.filter_congr
    intro x _
    simp only [Array.contains_push]
    cases hb : (x.born == e.born) <;> cases seen.contains x.born <;> simp_all
  rw [h1]
  have hnd : ((leftOf es seen).toList.map (·.born)).Nodup := by
    simp only [leftOf, Array.toList_filter]
    exact (List.filter_sublist.map _).nodup hn
  generalize (leftOf es seen).toList = l at he hnd
  induction l with
  | nil => cases he
  | cons y l ih =>
    simp only [List.map_cons, List.nodup_cons] at hnd
    rcases List.mem_cons.1 he with rfl | he
    · have hall : l.filter (fun x => x.born != e.born) = l := by
        refine List.filter_eq_self.2 (fun x hx => ?_)
        have : x.born ≠ e.born := fun h => hnd.1 (by rw [← h]; exact List.mem_map.2 ⟨x, hx, rfl⟩)
        simpa using this
      rw [List.filter_cons, if_neg (by simp), hall]
    · have hne : y.born ≠ e.born := fun h => hnd.1 (by rw [h]; exact List.mem_map.2 ⟨e, he, rfl⟩)
      rw [List.filter_cons, if_pos (by simpa using hne)]
      exact (List.Perm.cons y (ih he hnd.2)).trans (List.Perm.swap _ _ _)
def intOf : Value → Int
  | .int _ n => n
  | _ => 0
/-- The keys that were handed out, sorted, are the tags' numbers. -/
theorem keys_sorted {es : Array MapEntry} {clock : Nat} {ks : List Nat} {zs zs' : List Int} (hm : Mapped es clock ks) (hk : ∀ k ∈ ks, ∃ e ∈ es, e.key = .int .u32 (k : Int)) (hz : (zs.map (Value.int .u32)).Perm (es.toList.map (·.key))) (hp : zs'.Perm zs) (hs : zs'.Pairwise (fun x y => x ≤ y)) : zs' = ks.map (fun k : Nat => (k : Int)) := by
  have h1 : (ks.map (fun k : Nat => (k : Int))).Perm (es.toList.map (fun e => intOf e.key)) := by
    refine perm_sub _ _ ?_ ?_ ?_
    · refine List.pairwise_map.2 (hm.2.2.2.imp (fun h e => by omega))
    · intro x hx
      obtain ⟨k, hk', rfl⟩ := List.mem_map.1 hx
      obtain ⟨e, he, hek⟩ := hk k hk'
      exact List.mem_map.2 ⟨e, Array.mem_toList_iff.2 he, by rw [hek]; rfl⟩
    · simp [hm.1]
  have h2 : zs.Perm (es.toList.map (fun e => intOf e.key)) := by
    have := hz.map intOf
    simpa [List.map_map, Function.comp_def, intOf] using this
  exact sorted_one _ _ ((hp.trans h2).trans h1.symm) hs (List.pairwise_map.2 (hm.2.2.2.imp (fun h => by omega)))
/-- The tags' octets, one by one. -/
theorem semT_at : ∀ (kvs : List (Nat × D)) (ys : List UInt8), semT kvs = some ys → ∀ i (h : i < kvs.length), ∃ pre cs post, semT (kvs.take i) = some pre ∧ ((sliceOf kvs[i].2).bind fun s => bytesOf s.2) = some cs ∧ kvs[i].1 < 4294967296 ∧ cs.length < 2147483648 ∧
    semT (kvs.take (i + 1)) = some (pre ++ (uvar kvs[i].1 ++ uvar cs.length ++ cs)) ∧ ys = pre ++ (uvar kvs[i].1 ++ uvar cs.length ++ cs) ++ post
  | [], _, _, i, h => by cases h
  | kv :: r, ys, hs, i, h => by
    simp only [semT] at hs
    split at hs
    · rename_i cs b hc hb
      split at hs
      · rename_i hlt
        cases hs
        cases i with
        | zero =>
          refine ⟨[], cs, b, by simp [semT], by simpa using hc, hlt.1, hlt.2, ?_, by simp⟩
          simp [semT, hc, hlt]
        | succ i =>
          obtain ⟨pre, cs', post, k1, k2, k3, k4, k5, k6⟩ := semT_at r b hb i (by simpa using h)
          refine ⟨uvar kv.1 ++ uvar cs.length ++ cs ++ pre, cs', post, ?_, by simpa using k2, by simpa using k3, k4, ?_, ?_⟩
          · simp only [List.take_succ_cons, semT, hc, k1, if_pos hlt]
          · simp only [List.take_succ_cons, semT, hc, k5, if_pos hlt, List.getElem_cons_succ, List.append_assoc]
          · rw [k6]; simp [List.append_assoc]
      · cases hs
    · cases hs
end Go.Proofs.YtgjplodgdgaakaaGreatDoor

/- Tags.AppendEach at the seat: the tags' octets, by rising numbers. -/
namespace Go.Proofs.YtgjplodgdgaakaaGreatDoor.Rdk
open Go Go.RowKit

set_option maxRecDepth 100000
/-- Nothing has turned but block bx, d's own block and new ones. -/
structure GrewB (bx : Nat) (w w' : World) (d d' : Value) : Prop where
  chg : Chg (fun j => j = bx ∨ d.ownBlock = some j) w w'
  fresh : d'.ownBlock = d.ownBlock ∨ ∀ g, d'.ownBlock = some g → w.heap.size ≤ g
theorem Own.under {w w' : World} {B u8 : Nat} {d : Value} {xs : List UInt8} (h : Own w B u8 d xs) (hb : Below w.heap.size w w') : Own w' B u8 d xs := by
  refine h.kept (Jg hb) ?_
  cases hd : d.ownBlock with
  | none => exact .inl rfl
  | some g => exact .inr (by simp)
/-- What is owned is a slice of octets. -/
theorem GrewB.refl (bx : Nat) (w : World) (d : Value) : GrewB bx w w d d := ⟨Chg.refl _ _, .inl rfl⟩
theorem GrewB.trans {bx : Nat} {a b c : World} {d e f : Value} (h : GrewB bx a b d e) (k : GrewB bx b c e f) : GrewB bx a c d f := by
  refine ⟨⟨k.chg.os.trans h.chg.os, k.chg.tape.trans h.chg.tape, k.chg.output.trans h.chg.output, Nat.le_trans h.chg.size k.chg.size, fun i hi hne => ?_⟩, ?_⟩
  · rw [← h.chg.block i hi hne]
    refine k.chg.block i (Nat.lt_of_lt_of_le hi h.chg.size) (fun e' => ?_)
    rcases e' with e' | e'
    · exact hne (.inl e')
    · rcases h.fresh with hf | hf
      · exact hne (.inr (hf.symm.trans e'))
      · have := hf i e'; omega
  · rcases k.fresh with kf | kf
    · rcases h.fresh with hf | hf
      · exact .inl (kf.trans hf)
      · exact .inr (fun g hg => hf g (kf ▸ hg))
    · exact .inr (fun g hg => Nat.le_trans h.chg.size (kf g hg))
theorem GrewB.grew {bx : Nat} {w w' : World} {d d' : Value} (h : Grew w w' d d') : GrewB bx w w' d d' :=
  ⟨⟨h.grown.os, h.grown.tape, h.grown.output, h.grown.size, fun k hk hn => h.grown.block k hk (fun e => hn (.inr e.symm))⟩, h.fresh⟩
theorem GrewB.stored {bx : Nat} {w w' : World} (d : Value) (h : w.grownBy w' (some bx)) : GrewB bx w w' d d := ⟨(Chg.grown h).wide (fun _ h => .inl h), .inl rfl⟩
theorem GrewB.ne {bx : Nat} {w w' : World} {d d' : Value} (h : GrewB bx w w' d d') (hne : d.ownBlock ≠ some bx) (hlt : bx < w.heap.size) : d'.ownBlock ≠ some bx := by
  rcases h.fresh with hf | hf
  · rw [hf]; exact hne
  · intro e; have := hf bx e; omega
theorem Src.chg {S : Nat → Prop} {w w' : World} {B : Nat} {v : Value} {ys : List UInt8} (h : Src w B v ys) (hc : Chg S w w') (hS : ∀ j, j < B → ¬ S j) (hB : B ≤ w.heap.size) : Src w' B v ys := by
  refine ⟨?_, h.2⟩
  rcases h.1 with ⟨a, c, rfl, rfl⟩ | ⟨b, off, c, rfl, hcs⟩
  · exact .inl ⟨a, c, rfl, rfl⟩
  · rcases h.2 with rfl | h2
    · exact .inl ⟨_, _, rfl, rfl⟩
    have hb : b < B := h2 b rfl
    exact .inr ⟨b, off, c, rfl, hcs.of_block (hc.block b (by omega) (hS b hb))⟩
theorem GrewB.low {bx B : Nat} {w w' : World} {d d' : Value} (h : GrewB bx w w' d d') (hBx : B ≤ bx) (hd : ∀ g, d.ownBlock = some g → B ≤ g) (hB : B ≤ w.heap.size) : Below B w w' :=
  ⟨h.chg.os, h.chg.tape, h.chg.output, h.chg.size, fun k hk => h.chg.block k (by omega) (fun e => by
    rcases e with e | e
    · omega
    · have := hd k e; omega)⟩
theorem own_one {w : World} {B u8 : Nat} {d : Value} {xs : List UInt8} (h : Own w B u8 d xs) : d.oneCell' = true := by
  obtain ⟨a, c, rfl⟩ := h.shape
  rfl
set_option maxHeartbeats 1000000 in
theorem fn_put1 (w : World) (bx B k : Nat) (val d : Value) (xs cs : List UInt8) (e : TypeId) (hbx : Box w bx [d] e) (hBx : B ≤ bx) (ho : Own w B 5 d xs) (hB : B ≤ w.heap.size) (hne : d.ownBlock ≠ some bx) (hv : Src w B val cs) (hk : k < 4294967296) (hc : cs.length < 2147483648)
    (hl : xs.length + (uvar k ++ uvar cs.length ++ cs).length ≤ lim) :
    Calls Tryz.prog 191 #[.int .u32 (k : Int), val, .pointer (some ⟨bx, 0, none⟩)] w fun en w' => en = .returned (.tuple #[]) ∧ ∃ d', Box w' bx [d'] e ∧ Own w' B 5 d' (xs ++ (uvar k ++ uvar cs.length ++ cs)) ∧ GrewB bx w w' d d' := by
  obtain ⟨va, vc, rfl⟩ := hv.1.shape
  simp only [List.length_append] at hl
  refine enter (vs := [.int .u32 (k : Int), .slice va cs.length vc, .pointer (some ⟨bx, 0, none⟩)]) Tryz.func191 rfl Tryz.ntmps191 rfl ?_
  repeat first|(with_reducible first|apply Yk|apply Yd|apply Ym|apply Yj|apply Yh|apply Yi|apply Yn|apply Yl|apply Ye|apply Yg|apply Yr|apply Yc|apply Yf|apply Yb|apply Ya)|((with_reducible apply ws);exact rfl;exact rfl)|((with_reducible apply Yo);exact rfl;exact rfl;exact rfl)|((with_reducible apply Yq);exact rfl;exact rfl;exact rfl;exact rfl)|((with_reducible apply Yp);exact rfl;exact rfl;exact rfl)
  refine Yv rfl to_bytes rfl hbx rfl ?_
  repeat first|(with_reducible first|apply Yk|apply Yd|apply Ym|apply Yj|apply Yh|apply Yi|apply Yn|apply Yl|apply Ye|apply Yg|apply Yr|apply Yc|apply Yf|apply Yb|apply Ya)|((with_reducible apply ws);exact rfl;exact rfl)|((with_reducible apply Yo);exact rfl;exact rfl;exact rfl)|((with_reducible apply Yq);exact rfl;exact rfl;exact rfl;exact rfl)|((with_reducible apply Yp);exact rfl;exact rfl;exact rfl)
  refine Yu rfl (by kernel_rfl) rfl ((Va k hk d w B xs trivial ho hB (by omega)).mono ?_)
  rintro en w1 ⟨d1, rfl, ho1, hg1⟩
  refine ⟨d1, rfl, ?_⟩
  have hb1 := hbx.kept hg1.grown (fun e => hne e.symm)
  have hs1 := hg1.grown.size
  refine YJ rfl rfl to_bytes (own_one ho1) hb1 rfl (fun w2 hb2 hg2 hs2 => ?_)
  have hG1 : GrewB bx w w1 d d1 := GrewB.grew hg1
  have hn1 := hG1.ne hne hbx.lt
  have ho2 := ho1.kept hg2 (.inr hn1)
  have hG2 := hG1.trans (GrewB.stored d1 hg2)
  have hsz2 : w.heap.size ≤ w2.heap.size := by omega
  repeat first|(with_reducible first|apply Yk|apply Yd|apply Ym|apply Yj|apply Yh|apply Yi|apply Yn|apply Yl|apply Ye|apply Yg|apply Yr|apply Yc|apply Yf|apply Yb|apply Ya)|((with_reducible apply ws);exact rfl;exact rfl)|((with_reducible apply Yo);exact rfl;exact rfl;exact rfl)|((with_reducible apply Yq);exact rfl;exact rfl;exact rfl;exact rfl)|((with_reducible apply Yp);exact rfl;exact rfl;exact rfl)
  refine Yv rfl to_bytes rfl hb2 rfl ?_
  repeat first|(with_reducible first|apply Yk|apply Yd|apply Ym|apply Yj|apply Yh|apply Yi|apply Yn|apply Yl|apply Ye|apply Yg|apply Yr|apply Yc|apply Yf|apply Yb|apply Ya)|((with_reducible apply ws);exact rfl;exact rfl)|((with_reducible apply Yo);exact rfl;exact rfl;exact rfl)|((with_reducible apply Yq);exact rfl;exact rfl;exact rfl;exact rfl)|((with_reducible apply Yp);exact rfl;exact rfl;exact rfl)
  refine YC .u32 rfl ti_i64 ti_u32 rfl (r := ((cs.length : Nat) : Int)) (by rw [IntKind.wrap_u32]; omega) ?_
  repeat first|(with_reducible first|apply Yk|apply Yd|apply Ym|apply Yj|apply Yh|apply Yi|apply Yn|apply Yl|apply Ye|apply Yg|apply Yr|apply Yc|apply Yf|apply Yb|apply Ya)|((with_reducible apply ws);exact rfl;exact rfl)|((with_reducible apply Yo);exact rfl;exact rfl;exact rfl)|((with_reducible apply Yq);exact rfl;exact rfl;exact rfl;exact rfl)|((with_reducible apply Yp);exact rfl;exact rfl;exact rfl)
  refine Yu rfl (by kernel_rfl) rfl ((Va cs.length (by omega) d1 w2 B _ trivial ho2 (by omega) (by rw [List.length_append]; omega)).mono ?_)
  rintro en w3 ⟨d3, rfl, ho3, hg3⟩
  refine ⟨d3, rfl, ?_⟩
  have hb3 := hb2.kept hg3.grown (fun e => hn1 e.symm)
  have hs3 := hg3.grown.size
  refine YJ rfl rfl to_bytes (own_one ho3) hb3 rfl (fun w4 hb4 hg4 hs4 => ?_)
  have hG3 := hG2.trans (GrewB.grew hg3)
  have hn3 := hG3.ne hne hbx.lt
  have ho4 := ho3.kept hg4 (.inr hn3)
  have hG4 := hG3.trans (GrewB.stored d3 hg4)
  repeat first|(with_reducible first|apply Yk|apply Yd|apply Ym|apply Yj|apply Yh|apply Yi|apply Yn|apply Yl|apply Ye|apply Yg|apply Yr|apply Yc|apply Yf|apply Yb|apply Ya)|((with_reducible apply ws);exact rfl;exact rfl)|((with_reducible apply Yo);exact rfl;exact rfl;exact rfl)|((with_reducible apply Yq);exact rfl;exact rfl;exact rfl;exact rfl)|((with_reducible apply Yp);exact rfl;exact rfl;exact rfl)
  refine Yv rfl to_bytes rfl hb4 rfl ?_
  repeat first|(with_reducible first|apply Yk|apply Yd|apply Ym|apply Yj|apply Yh|apply Yi|apply Yn|apply Yl|apply Ye|apply Yg|apply Yr|apply Yc|apply Yf|apply Yb|apply Ya)|((with_reducible apply ws);exact rfl;exact rfl)|((with_reducible apply Yo);exact rfl;exact rfl;exact rfl)|((with_reducible apply Yq);exact rfl;exact rfl;exact rfl;exact rfl)|((with_reducible apply Yp);exact rfl;exact rfl;exact rfl)
  have hv4 : Src w4 B (.slice va cs.length vc) cs := Src.chg hv hG4.chg (fun j hj e => by
    rcases e with e | e
    · omega
    · have := ho.ge j e; omega) hB
  refine YK tb_bytes tb_bytes rfl rfl rfl hv4.1 ho4 (by omega) (by simp only [List.length_append]; omega) (fun d5 w5 ho5 hg5 => ?_)
  have hb5 := hb4.kept hg5.grown (fun e => hn3 e.symm)
  have hG5 := hG4.trans (GrewB.grew hg5)
  have hn5 := hG5.ne hne hbx.lt
  refine YJ rfl rfl to_bytes (own_one ho5) hb5 rfl (fun w6 hb6 hg6 hs6 => ?_)
  have ho6 := ho5.kept hg6 (.inr hn5)
  have hG6 := hG5.trans (GrewB.stored d5 hg6)
  refine Ym ?_
  refine JA rfl ⟨rfl, d5, hb6, ?_, hG6⟩
  simpa [List.append_assoc] using ho6

theorem rt_u32 : Yc0 Tryz.prog 224 71 1 = true := by kernel_rfl
theorem to_u32s : XR Tryz.prog 224 = true := by kernel_rfl
theorem es_u32s : YH Tryz.prog 224 = some 1 := by kernel_rfl
theorem el_u32s : (YH Tryz.prog 224).isSome = true := by kernel_rfl
theorem un_u32s : Tryz.prog.underlying 224 = some (.slice 71) := by kernel_rfl
theorem zv_u32s (w : World) : (zeroValue 224).run Tryz.prog w = .ok (.slice none 0 0) w := by kernel_rfl
theorem ne_u32s : (224 : Nat) ≠ 71 := by decide
theorem rising_len : ∀ (l : List Nat) (lo M : Nat), l.Pairwise (· < ·) → (∀ x ∈ l, lo ≤ x ∧ x < M) → l.length ≤ M - lo
  | [], _, _, _, _ => by simp
  | x :: l, lo, M, hp, h => by
    have hp' := List.pairwise_cons.1 hp
    have hx := h x (by simp)
    have := rising_len l (x + 1) M hp'.2 (fun y hy => ⟨hp'.1 y hy, (h y (by simp [hy])).2⟩)
    simp only [List.length_cons]; omega
theorem semT_keys {kvs : List (Nat × D)} {ys : List UInt8} (h : semT kvs = some ys) : ∀ k ∈ kvs.map (·.1), k < 4294967296 := by
  intro k hk
  obtain ⟨kv, hkv, rfl⟩ := List.mem_map.1 hk
  obtain ⟨i, hi, rfl⟩ := List.mem_iff_getElem.1 hkv
  obtain ⟨_, _, _, _, _, h3, _⟩ := semT_at kvs ys h i hi
  exact h3
theorem JY {w : World} {B e sz n g : Nat} {d : Value} {xs : List Value} (h : w.ownsRow B e sz d n xs) (hg : d.ownBlock = some g) : ∃ cur, w.heap[g]? = some (.cells cur e (0, 0)) := by
  rcases h.2 with ⟨rfl, _⟩ | ⟨g', cap', cur, rfl, _, hheap, _⟩
  · simp [Value.ownBlock] at hg
  · simp only [Value.ownBlock, Option.some.injEq] at hg; subst hg; exact ⟨cur, hheap⟩
theorem Row.kept {w w' : World} {B e sz n : Nat} {d : Value} {xs : List Value} {row : Option Nat} (h : w.ownsRow B e sz d n xs) (hg : w.grownBy w' row) (hne : d.ownBlock = none ∨ d.ownBlock ≠ row) : w'.ownsRow B e sz d n xs :=
  World.ownsRow.kept h hg hne
theorem nodup_one {α β : Type} (f : α → β) : ∀ (l : List α), (l.map f).Nodup → ∀ x ∈ l, ∀ y ∈ l, f x = f y → x = y
  | [], _, x, hx, _, _, _ => by cases hx
  | a :: l, hn, x, hx, y, hy, h => by
    simp only [List.map_cons, List.nodup_cons] at hn
    rcases List.mem_cons.1 hx with e1 | h1
    · rcases List.mem_cons.1 hy with e2 | h2
      · rw [e1, e2]
      · exact (hn.1 (List.mem_map.2 ⟨y, h2, by rw [← h, e1]⟩)).elim
    · rcases List.mem_cons.1 hy with e2 | h2
      · exact (hn.1 (List.mem_map.2 ⟨x, h1, by rw [h, e2]⟩)).elim
      · exact nodup_one f l hn.2 x h1 y h2 h
theorem leftOf_nil (es : Array MapEntry) : leftOf es #[] = es := by
  unfold leftOf
  exact Array.filter_eq_self.2 (by simp)
theorem arOf {B : Nat} {w : World} {d : D} {s : Bool × List D} {v : Value} (h : sliceOf d = some s) (hr : Rep (Lo B) w d [v]) : ArOk B w (.d d) v := by
  cases d <;> first | exact hr | (simp [sliceOf] at h)
set_option maxHeartbeats 4000000 in
theorem fn_each (w : World) (bx B b off : Nat) (kvs : List (Nat × D)) (v d : Value) (xs ys : List UInt8) (e : TypeId) (hs : semT kvs = some ys) (hb : b < B) (hc : w.cell? ⟨b, off, none⟩ = some v) (hr : Rep (Lo B) w (.mp kvs) [v]) (hbx : Box w bx [d] e) (hBx : B ≤ bx) (ho : Own w B 5 d xs) (hB : B ≤ w.heap.size) (hne : d.ownBlock ≠ some bx)
    (hl : xs.length + ys.length ≤ lim) :
    Calls Tryz.prog 190 #[.pointer (some ⟨b, off, none⟩), .func (.func 191) #[] #[.pointer (some ⟨bx, 0, none⟩)]] w fun en w' => en = .returned (.tuple #[]) ∧ ∃ d', Box w' bx [d'] e ∧ Own w' B 5 d' (xs ++ ys) ∧ GrewB bx w w' d d' := by
  obtain ⟨m, rfl, hm⟩ := mp_len hr
  refine enter (vs := [.pointer (some ⟨b, off, none⟩), .func (.func 191) #[] #[.pointer (some ⟨bx, 0, none⟩)]]) Tryz.func190 rfl Tryz.ntmps190 rfl ?_
  refine Yk (Yk (Yd ?_))
  refine wt rfl rfl ?_
  refine wt rfl rfl ?_
  refine wt rfl rfl ?_
  refine Xs rfl to_map rfl hc ?_
  refine Yi1 rfl um hm rfl ?_
  refine wt rfl rfl ?_
  refine Ym (Yj ?_)
  by_cases hz : kvs = []
  · subst hz
    simp only [semT, Option.some.injEq] at hs
    subst hs
    refine Yz rfl rfl (Yn (Ye (qk_ret0 rfl ⟨rfl, d, hbx, by simpa using ho, GrewB.refl _ _ _⟩)))
  have hpos : 0 < kvs.length := List.length_pos_iff.2 hz
  refine YE rfl (by simp; omega) (Yi (Yj ?_))
  simp only [Rep] at hr
  rcases hr with ⟨_, h0⟩ | ⟨r, es, clock, hrm, hrB, hmap, hmapd, hks⟩
  · exact absurd h0 hz
  simp only [List.cons.injEq, Value.map.injEq, and_true] at hrm
  subst hrm
  rw [JX] at hks
  have hkeys := semT_keys hs
  have hlen32 : kvs.length ≤ 4294967296 := by
    have := rising_len (kvs.map (·.1)) 0 4294967296 hmapd.2.2.2 (fun x hx => ⟨Nat.zero_le _, hkeys x hx⟩)
    simpa using this
  have hbw : b < w.heap.size := by omega
  have hrw : r < w.heap.size := by have : r < B := hrB; omega
  refine Yk (Yd ?_)
  refine wt rfl rfl ?_
  refine wt rfl rfl ?_
  refine wt rfl rfl ?_
  refine Xs rfl to_map rfl hc ?_
  refine Yi1 rfl um hm rfl ?_
  refine wl_makeRow (B := w.heap.size) (n := kvs.length) rt_u32 rfl (by simp only [many]; omega) rfl (Nat.le_refl _) (fun w1 hrow1 hg1 hs1 => ?_)
  refine Xp zv_u32s rfl rfl (fun w2 hb2 hg2 hs2 => ?_)
  refine YJ rfl rfl to_u32s rfl hb2 rfl (fun w3 hb3' hg3 hs3 => ?_)
  have hb3 : Box w3 w1.heap.size [.slice (some ⟨w.heap.size, 0, none⟩) 0 kvs.length] 224 := hb3'
  clear hb3'
  have hrow3 := Row.kept (Row.kept hrow1 hg2 (.inr (by simp [Value.ownBlock]))) hg3 (.inr (by simp [Value.ownBlock]; omega))
  have hc13 : Chg (fun j => w.heap.size ≤ j) w w3 := ((Chg.grown0 hg1).trans (Chg.grown0 hg2)).trans ((Chg.grown hg3).wide (fun j hj => by have : j = w1.heap.size := hj; omega))
  have hmap3 : w3.heap[r]? = some (.map es clock) := (hc13.block r hrw (by omega)).trans hmap
  have hcell3 : w3.cell? ⟨b, off, none⟩ = some (.map (some r)) := by
    rw [← hc]; simp only [World.cell?, hc13.block b hbw (by omega)]
  refine Ym (Yj ?_)
  refine Yk (Yk (Yd ?_))
  refine wt rfl rfl ?_
  refine wt rfl rfl ?_
  refine wt rfl rfl ?_
  refine Xs rfl to_map rfl hcell3 ?_
  refine wl_range rfl um hmap3 rfl ?_
  have hit4 : (w3.alloc (.mapIter (some r) clock #[] clock)).heap[w3.heap.size]? = some (.mapIter (some r) clock #[] clock) := heap_alloc_new _ _
  have hs4 : (w3.alloc (.mapIter (some r) clock #[] clock)).heap.size = w3.heap.size + 1 := by simp
  have hg4 := Vl w3 (.mapIter (some r) clock #[] clock)
  generalize w3.alloc (.mapIter (some r) clock #[] clock) = w4 at *
  have hb4 := hb3.kept hg4 (by simp)
  have hrow4 := Row.kept hrow3 hg4 (.inr (by simp [Value.ownBlock]))
  have hc14 : Chg (fun j => w.heap.size ≤ j) w w4 := hc13.trans (Chg.grown0 hg4)
  refine Ym (Yj ?_)
  refine Yh (XH (α := List Int × Value × Array Nat × Nat) (fun _ => [(0, .pointer (some ⟨b, off, none⟩)), (1, .func (.func 191) #[] #[.pointer (some ⟨bx, 0, none⟩)]), (4, .pointer (some ⟨w1.heap.size, 0, none⟩)), (24, .pointer (some ⟨w3.heap.size, 0, none⟩))])
    (fun z w' => Box w' w1.heap.size [z.2.1] 224 ∧ w'.ownsRow w.heap.size 71 1 z.2.1 z.1.length (z.1.map encU) ∧ w'.heap[w3.heap.size]? = some (.mapIter (some r) clock z.2.2.1 z.2.2.2) ∧ clock ≤ z.2.2.2 ∧
      (z.1.map encU ++ (leftOf es z.2.2.1).toList.map (·.key)).Perm (es.toList.map (·.key)) ∧ Chg (fun j => w.heap.size ≤ j) w w')
    (fun z => (leftOf es z.2.2.1).size) ([], .slice (some ⟨w.heap.size, 0, none⟩) 0 kvs.length, #[], clock) ⟨rfl, rfl, rfl, rfl, trivial⟩ ⟨hb4, hrow4, hit4, Nat.le_refl _, ?_, hc14⟩ ?_)
  · simp [leftOf_nil]
  · rintro ⟨zs, dv, seen, c0⟩ w5 ⟨hb5, hrow5, hit5, hcl5, hperm5, hc5⟩
    simp only [] at hb5 hrow5 hit5 hcl5 hperm5
    have hmap5 : w5.heap[r]? = some (.map es clock) := (hc5.block r hrw (by omega)).trans hmap
    refine Yk (Yd ?_)
    refine wl_next rfl hit5 hmap5 hmapd.2.1.1 hcl5 rfl (fun hleft => ?_) (fun en hen w6 hit6 hc6 hs6 => ?_)
    · -- nothing is left
      have hl0 : (leftOf es seen).toList = [] := List.length_eq_zero_iff.1 (by simpa using hleft)
      rw [hl0] at hperm5
      simp only [List.map_nil, List.append_nil] at hperm5
      have hzl : zs.length = kvs.length := by
        have := hperm5.length_eq
        simp only [List.length_map, Array.length_toList] at this
        rw [this, hmapd.1, List.length_map]
      obtain ⟨g, cap, rfl, hBg, hglt, _⟩ := Row.cells hrow5 (by omega)
      obtain ⟨cur, hcur⟩ := JY (g := g) hrow5 rfl
      have hog : w1.heap.size ≠ g := by
        intro e'
        have h1 : w5.heap[w1.heap.size]? = some (.cells cur 71 (0, 0)) := by rw [e']; exact hcur
        have h2 := hb5
        simp only [Box, h1, Option.some.injEq, Obj.cells.injEq] at h2
        exact ne_u32s h2.2.1.symm
      refine wl_extract rfl rfl rfl ?_
      repeat first|(with_reducible first|apply Yk|apply Yd|apply Ym|apply Yj|apply Yh|apply Yi|apply Yn|apply Yl|apply Ye|apply Yg|apply Yr|apply Yc|apply Yf|apply Yb|apply Ya)|((with_reducible apply ws);exact rfl;exact rfl)|((with_reducible apply Yo);exact rfl;exact rfl;exact rfl)|((with_reducible apply Yq);exact rfl;exact rfl;exact rfl;exact rfl)|((with_reducible apply Yp);exact rfl;exact rfl;exact rfl)
      refine YE rfl rfl ?_
      repeat first|(with_reducible first|apply Yk|apply Yd|apply Ym|apply Yj|apply Yh|apply Yi|apply Yn|apply Yl|apply Ye|apply Yg|apply Yr|apply Yc|apply Yf|apply Yb|apply Ya)|((with_reducible apply ws);exact rfl;exact rfl)|((with_reducible apply Yo);exact rfl;exact rfl;exact rfl)|((with_reducible apply Yq);exact rfl;exact rfl;exact rfl;exact rfl)|((with_reducible apply Yp);exact rfl;exact rfl;exact rfl)
      refine Yv rfl to_u32s rfl hb5 rfl ?_
      refine wl_makeIface rfl un_u32s rfl ?_
      refine JC (caps := [.tmp 4]) rfl rfl ?_
      refine Yu rfl (by kernel_rfl) rfl ((fn_sort w5 w.heap.size g cap w1.heap.size _ zs (by omega) hb5 hrow5 hog).mono ?_)
      rintro en w6 ⟨rfl, zs', hp', hso', hcs6, hc6⟩
      refine ⟨_, rfl, ?_⟩
      have hzz : zs' = (kvs.map (·.1)).map (fun k : Nat => (k : Int)) := keys_sorted hmapd (fun k hk => by
        obtain ⟨kv, hkv, rfl⟩ := List.mem_map.1 hk
        obtain ⟨x, hx, hxk, _⟩ := hks kv hkv
        exact ⟨x, hx, hxk⟩) hperm5 hp' hso'
      subst hzz
      have hc06 : Chg (fun j => w.heap.size ≤ j) w w6 := hc5.trans (hc6.wide (fun j hj => by have : j = g := hj; omega))
      have hw6 : Below w.heap.size w w6 := ⟨hc06.os, hc06.tape, hc06.output, hc06.size, fun k hk => hc06.block k hk (by omega)⟩
      have hb6 := hb5.chg hc6 hog
      have hbx6 := hbx.chg hc06 (by have := hbx.lt; omega)
      have ho6 := Own.under ho hw6
      repeat first|(with_reducible first|apply Yk|apply Yd|apply Ym|apply Yj|apply Yh|apply Yi|apply Yn|apply Yl|apply Ye|apply Yg|apply Yr|apply Yc|apply Yf|apply Yb|apply Ya)|((with_reducible apply ws);exact rfl;exact rfl)|((with_reducible apply Yo);exact rfl;exact rfl;exact rfl)|((with_reducible apply Yq);exact rfl;exact rfl;exact rfl;exact rfl)|((with_reducible apply Yp);exact rfl;exact rfl;exact rfl)
      refine Yv rfl to_u32s rfl hb6 rfl ?_
      refine wl_len rfl el_u32s rfl ?_
      repeat first|(with_reducible first|apply Yk|apply Yd|apply Ym|apply Yj|apply Yh|apply Yi|apply Yn|apply Yl|apply Ye|apply Yg|apply Yr|apply Yc|apply Yf|apply Yb|apply Ya)|((with_reducible apply ws);exact rfl;exact rfl)|((with_reducible apply Yo);exact rfl;exact rfl;exact rfl)|((with_reducible apply Yq);exact rfl;exact rfl;exact rfl;exact rfl)|((with_reducible apply Yp);exact rfl;exact rfl;exact rfl)
      refine XH (α := Nat × Value) (fun z => [(0, .pointer (some ⟨b, off, none⟩)), (1, .func (.func 191) #[] #[.pointer (some ⟨bx, 0, none⟩)]), (37, .slice (some ⟨g, 0, none⟩) zs.length cap), (38, .int .i64 (zs.length : Int)), (39, .int .i64 (z.1 : Int))])
        (fun z w' => z.1 ≤ kvs.length ∧ Box w' bx [z.2] e ∧ (∃ pre, semT (kvs.take z.1) = some pre ∧ Own w' B 5 z.2 (xs ++ pre)) ∧ GrewB bx w6 w' d z.2)
        (fun z => kvs.length - z.1) (0, d) ⟨rfl, rfl, rfl, rfl, rfl, trivial⟩ ⟨Nat.zero_le _, hbx6, ⟨[], by simp [semT], by simpa using ho6⟩, GrewB.refl _ _ _⟩ ?_
      rintro ⟨i, di⟩ w7 ⟨hin, hb7, ⟨pre, hpre, ho7⟩, hG7⟩
      simp only [] at hin hb7 hpre ho7 hG7
      have hs7 := hG7.chg.size
      have hs6 := hc06.size
      repeat first|(with_reducible first|apply Yk|apply Yd|apply Ym|apply Yj|apply Yh|apply Yi|apply Yn|apply Yl|apply Ye|apply Yg|apply Yr|apply Yc|apply Yf|apply Yb|apply Ya)|((with_reducible apply ws);exact rfl;exact rfl)|((with_reducible apply Yo);exact rfl;exact rfl;exact rfl)|((with_reducible apply Yq);exact rfl;exact rfl;exact rfl;exact rfl)|((with_reducible apply Yp);exact rfl;exact rfl;exact rfl)
      by_cases hi : i < kvs.length
      · refine Yz rfl (by simp; omega) ?_
        repeat first|(with_reducible first|apply Yk|apply Yd|apply Ym|apply Yj|apply Yh|apply Yi|apply Yn|apply Yl|apply Ye|apply Yg|apply Yr|apply Yc|apply Yf|apply Yb|apply Ya)|((with_reducible apply ws);exact rfl;exact rfl)|((with_reducible apply Yo);exact rfl;exact rfl;exact rfl)|((with_reducible apply Yq);exact rfl;exact rfl;exact rfl;exact rfl)|((with_reducible apply Yp);exact rfl;exact rfl;exact rfl)
        obtain ⟨pre', cs, post, k1, k2, k3, k4, k5, k6⟩ := semT_at kvs ys hs i hi
        rw [hpre] at k1
        simp only [Option.some.injEq] at k1
        subst k1
        have hkeep : ∀ j, j < w.heap.size → j ≠ bx → (B ≤ j → d.ownBlock ≠ some j) → w7.heap[j]? = w.heap[j]? := fun j hj h1 h2 => by
          rw [hG7.chg.block j (by omega) (fun h => by
            rcases h with h | h
            · exact h1 h
            · exact h2 (ho.ge j h) h)]
          exact hc06.block j hj (by omega)
        have hgk : w7.heap[g]? = w6.heap[g]? := hG7.chg.block g (by have := hc6.size; omega) (fun h => by
          rcases h with h | h
          · have := hbx.lt; omega
          · have := ho.lt g h; omega)
        refine YD rfl rfl es_u32s rfl (by omega) ?_
        refine Xs rfl to_u32 rfl (v := .int .u32 ((kvs[i].1 : Nat) : Int)) ?_ ?_
        · have h1 := (hcs6.of_block hgk).cell (i := i) (v := encU ((kvs[i].1 : Nat) : Int)) (by simp [hi])
          rw [Nat.mul_one]; exact h1
        repeat first|(with_reducible first|apply Yk|apply Yd|apply Ym|apply Yj|apply Yh|apply Yi|apply Yn|apply Yl|apply Ye|apply Yg|apply Yr|apply Yc|apply Yf|apply Yb|apply Ya)|((with_reducible apply ws);exact rfl;exact rfl)|((with_reducible apply Yo);exact rfl;exact rfl;exact rfl)|((with_reducible apply Yq);exact rfl;exact rfl;exact rfl;exact rfl)|((with_reducible apply Yp);exact rfl;exact rfl;exact rfl)
        refine wt rfl rfl ?_
        refine Xs rfl to_map rfl (v := .map (some r)) ?_ ?_
        · rw [← hc]
          show w7.cell? ⟨b, off, none⟩ = _
          simp only [World.cell?, hkeep b hbw (by omega) (fun h => by omega)]
        have hrB' : r < B := hrB
        have hmap7 : w7.heap[r]? = some (.map es clock) := (hkeep r hrw (by omega) (fun h => by omega)).trans hmap
        have hkin : kvs[i] ∈ kvs := List.getElem_mem hi
        obtain ⟨x0, hx0, hx0k, hx0r⟩ := hks kvs[i] hkin
        repeat first|(with_reducible first|apply Yk|apply Yd|apply Ym|apply Yj|apply Yh|apply Yi|apply Yn|apply Yl|apply Ye|apply Yg|apply Yr|apply Yc|apply Yf|apply Yb|apply Ya)|((with_reducible apply ws);exact rfl;exact rfl)|((with_reducible apply Yo);exact rfl;exact rfl;exact rfl)|((with_reducible apply Yq);exact rfl;exact rfl;exact rfl;exact rfl)|((with_reducible apply Yp);exact rfl;exact rfl;exact rfl)
        refine wl_lookup rfl rfl um uk hmap7 hmapd ⟨x0, hx0, hx0k⟩ rfl (fun en hen hek => ?_)
        obtain rfl : en = x0 := nodup_one (·.key) es.toList hmapd.2.1.2.2 en (Array.mem_toList_iff.2 hen) x0 (Array.mem_toList_iff.2 hx0) (by rw [hek, hx0k])
        obtain ⟨s0, hs0, hbs0⟩ := Option.bind_eq_some_iff.1 k2
        have hsrc : Src w B en.val cs := srcOf (n := s0.1) (ds := s0.2) hs0 hbs0 (arOf hs0 hx0r)
        have hsrc7 : Src w7 B en.val cs := Src.chg (Src.chg hsrc hc06 (fun j hj => by omega) (by omega)) hG7.chg (fun j hj h => by
          rcases h with h | h
          · omega
          · have := ho.ge j h; omega) (by omega)
        have hll : (xs ++ pre).length + (uvar kvs[i].1 ++ uvar cs.length ++ cs).length ≤ lim := by
          rw [k6] at hl
          simp only [List.length_append] at hl ⊢
          omega
        refine wl_callV (vs := [.int .u32 ((kvs[i].1 : Nat) : Int), en.val]) (bs := [.pointer (some ⟨bx, 0, none⟩)]) (args := [.tmp 44, .tmp 50]) rfl rfl (by kernel_rfl) rfl ((fn_put1 w7 bx B kvs[i].1 en.val di (xs ++ pre) cs e hb7 hBx ho7 (by omega) (hG7.ne hne (by have := hbx.lt; omega)) hsrc7 k3 k4 hll).mono ?_)
        rintro en' w8 ⟨rfl, d8, hb8, ho8, hG8⟩
        refine ⟨_, rfl, ?_⟩
        repeat first|(with_reducible first|apply Yk|apply Yd|apply Ym|apply Yj|apply Yh|apply Yi|apply Yn|apply Yl|apply Ye|apply Yg|apply Yr|apply Yc|apply Yf|apply Yb|apply Ya)|((with_reducible apply ws);exact rfl;exact rfl)|((with_reducible apply Yo);exact rfl;exact rfl;exact rfl)|((with_reducible apply Yq);exact rfl;exact rfl;exact rfl;exact rfl)|((with_reducible apply Yp);exact rfl;exact rfl;exact rfl)
        refine Xo rfl rfl rfl (r := ((i + 1 : Nat) : Int)) (by rw [IntKind.wrap_i64]; omega) ?_
        repeat first|(with_reducible first|apply Yk|apply Yd|apply Ym|apply Yj|apply Yh|apply Yi|apply Yn|apply Yl|apply Ye|apply Yg|apply Yr|apply Yc|apply Yf|apply Yb|apply Ya)|((with_reducible apply ws);exact rfl;exact rfl)|((with_reducible apply Yo);exact rfl;exact rfl;exact rfl)|((with_reducible apply Yq);exact rfl;exact rfl;exact rfl;exact rfl)|((with_reducible apply Yp);exact rfl;exact rfl;exact rfl)
        refine YW (i + 1, d8) ⟨rfl, rfl, rfl, rfl, rfl, trivial⟩ ⟨hi, hb8, ⟨_, k5, by simpa [List.append_assoc] using ho8⟩, hG7.trans hG8⟩ (by show kvs.length - (i + 1) < kvs.length - i; omega)
      · refine YE rfl (by simp; omega) ?_
        repeat first|(with_reducible first|apply Yk|apply Yd|apply Ym|apply Yj|apply Yh|apply Yi|apply Yn|apply Yl|apply Ye|apply Yg|apply Yr|apply Yc|apply Yf|apply Yb|apply Ya)|((with_reducible apply ws);exact rfl;exact rfl)|((with_reducible apply Yo);exact rfl;exact rfl;exact rfl)|((with_reducible apply Yq);exact rfl;exact rfl;exact rfl;exact rfl)|((with_reducible apply Yp);exact rfl;exact rfl;exact rfl)
        have hie : i = kvs.length := by omega
        rw [hie, List.take_length, hs] at hpre
        simp only [Option.some.injEq] at hpre
        subst hpre
        refine JA rfl ⟨rfl, di, hb7, ho7, ?_⟩
        refine ⟨⟨hG7.chg.os.trans hc06.os, hG7.chg.tape.trans hc06.tape, hG7.chg.output.trans hc06.output, by omega, fun k hk hn => (hG7.chg.block k (by omega) hn).trans (hc06.block k hk (by omega))⟩, ?_⟩
        rcases hG7.fresh with h | h
        · exact .inl h
        · exact .inr (fun q hq => by have := h q hq; omega)
    · -- one more key
      have hen' : en ∈ es.toList := by
        simp only [leftOf, Array.toList_filter, List.mem_filter] at hen
        exact hen.1
      obtain ⟨k, _, hek⟩ := hmapd.2.2.1 en hen'
      have hpush := leftOf_push hen hmapd.2.1.2.1
      have hzle : zs.length < es.size := by
        have h1 := hperm5.length_eq
        have h2 := hpush.length_eq
        simp only [List.length_append, List.length_map, Array.length_toList, List.length_cons] at h1 h2
        omega
      have hes : es.size = kvs.length := by rw [hmapd.1, List.length_map]
      have hs5 := hc5.size
      have hits : w3.heap.size < w5.heap.size := (Array.getElem?_eq_some_iff.1 hit5).1
      have hne5 : dv.ownBlock ≠ some w3.heap.size := by
        intro h
        obtain ⟨cur, hcur⟩ := JY hrow5 h
        rw [hcur] at hit5; cases hit5
      have hno5 : dv.ownBlock ≠ some w1.heap.size := by
        intro h
        obtain ⟨cur, hcur⟩ := JY hrow5 h
        have h2 := hb5
        simp only [Box, hcur, Option.some.injEq, Obj.cells.injEq] at h2
        exact ne_u32s h2.2.1.symm
      have hib : w1.heap.size ≠ w3.heap.size := by omega
      have hb6 := hb5.chg hc6 (fun h : w1.heap.size = w3.heap.size => hib h)
      have hg6 : w5.grownBy w6 (some w3.heap.size) := ⟨hc6.os, hc6.tape, hc6.output, hc6.size, fun j hj hn => hc6.block j hj (fun h => hn (by rw [h]))⟩
      have hrow6 := Row.kept hrow5 hg6 (.inr hne5)
      have hmap6 : w6.heap[r]? = some (.map es clock) := (hc6.block r (by omega) (fun h : r = w3.heap.size => by omega)).trans hmap5
      refine wl_extract rfl rfl rfl ?_
      repeat first|(with_reducible first|apply Yk|apply Yd|apply Ym|apply Yj|apply Yh|apply Yi|apply Yn|apply Yl|apply Ye|apply Yg|apply Yr|apply Yc|apply Yf|apply Yb|apply Ya)|((with_reducible apply ws);exact rfl;exact rfl)|((with_reducible apply Yo);exact rfl;exact rfl;exact rfl)|((with_reducible apply Yq);exact rfl;exact rfl;exact rfl;exact rfl)|((with_reducible apply Yp);exact rfl;exact rfl;exact rfl)
      refine Yz rfl rfl ?_
      repeat first|(with_reducible first|apply Yk|apply Yd|apply Ym|apply Yj|apply Yh|apply Yi|apply Yn|apply Yl|apply Ye|apply Yg|apply Yr|apply Yc|apply Yf|apply Yb|apply Ya)|((with_reducible apply ws);exact rfl;exact rfl)|((with_reducible apply Yo);exact rfl;exact rfl;exact rfl)|((with_reducible apply Yq);exact rfl;exact rfl;exact rfl;exact rfl)|((with_reducible apply Yp);exact rfl;exact rfl;exact rfl)
      refine wl_entry rfl hit6 hmap6 hen' hmapd.2.1.2.1 rfl ?_
      rw [hek]
      refine wl_extract rfl rfl rfl ?_
      repeat first|(with_reducible first|apply Yk|apply Yd|apply Ym|apply Yj|apply Yh|apply Yi|apply Yn|apply Yl|apply Ye|apply Yg|apply Yr|apply Yc|apply Yf|apply Yb|apply Ya)|((with_reducible apply ws);exact rfl;exact rfl)|((with_reducible apply Yo);exact rfl;exact rfl;exact rfl)|((with_reducible apply Yq);exact rfl;exact rfl;exact rfl;exact rfl)|((with_reducible apply Yp);exact rfl;exact rfl;exact rfl)
      refine Yv rfl to_u32s rfl hb6 rfl ?_
      repeat first|(with_reducible first|apply Yk|apply Yd|apply Ym|apply Yj|apply Yh|apply Yi|apply Yn|apply Yl|apply Ye|apply Yg|apply Yr|apply Yc|apply Yf|apply Yb|apply Ya)|((with_reducible apply ws);exact rfl;exact rfl)|((with_reducible apply Yo);exact rfl;exact rfl;exact rfl)|((with_reducible apply Yq);exact rfl;exact rfl;exact rfl;exact rfl)|((with_reducible apply Yp);exact rfl;exact rfl;exact rfl)
      refine wl_app1 (v := .int .u32 (k : Int)) (cs := [.int .u32 (k : Int)]) (dv := dv) (xs := zs.map encU) (n := zs.length) rt_u32 rfl rfl rfl rfl rfl rfl rfl rfl hrow6 (by omega) (by simp only [many]; omega) (fun d7 w7 hrow7 hg7 => ?_)
      have hb7 := hb6.kept hg7.grown (fun h => hno5 h.symm)
      have hit7 : w7.heap[w3.heap.size]? = some (.mapIter (some r) clock (seen.push en.born) clock) := (hg7.grown.block _ (by omega) (fun h => hne5 h.symm)).trans hit6
      obtain ⟨a7, c7, hd7⟩ := Row.shape hrow7
      refine YJ rfl rfl to_u32s (by rw [hd7]; rfl) hb7 rfl (fun w8 hb8 hg8 hs8 => ?_)
      have hno7 : d7.ownBlock ≠ some w1.heap.size := by
        intro h
        obtain ⟨cur, hcur⟩ := JY hrow7 h
        have h2 := hb7
        simp only [Box, hcur, Option.some.injEq, Obj.cells.injEq] at h2
        exact ne_u32s h2.2.1.symm
      have hrow8 := Row.kept hrow7 hg8 (.inr hno7)
      have hit8 : w8.heap[w3.heap.size]? = some (.mapIter (some r) clock (seen.push en.born) clock) := (hg8.block _ (by have := hg7.grown.size; omega) (fun h => hib (by simpa using h.symm))).trans hit7
      have hge := Row.ge hrow5
      have hc8 : Chg (fun j => w.heap.size ≤ j) w w8 := ((hc5.trans (hc6.wide (fun j hj => by have : j = w3.heap.size := hj; omega))).trans
        (⟨hg7.grown.os, hg7.grown.tape, hg7.grown.output, hg7.grown.size, fun j hj hn => hg7.grown.block j hj (fun h => hn (hge j h.symm))⟩ : Chg (fun j => w.heap.size ≤ j) w6 w7)).trans ((Chg.grown hg8).wide (fun j hj => by have : j = w1.heap.size := hj; omega))
      repeat first|(with_reducible first|apply Yk|apply Yd|apply Ym|apply Yj|apply Yh|apply Yi|apply Yn|apply Yl|apply Ye|apply Yg|apply Yr|apply Yc|apply Yf|apply Yb|apply Ya)|((with_reducible apply ws);exact rfl;exact rfl)|((with_reducible apply Yo);exact rfl;exact rfl;exact rfl)|((with_reducible apply Yq);exact rfl;exact rfl;exact rfl;exact rfl)|((with_reducible apply Yp);exact rfl;exact rfl;exact rfl)
      refine YW (zs ++ [(k : Int)], d7, seen.push en.born, clock) ⟨rfl, rfl, rfl, rfl, trivial⟩ ⟨hb8, ?_, hit8, Nat.le_refl _, ?_, hc8⟩ ?_
      · simpa using hrow8
      · refine List.Perm.trans ?_ hperm5
        simp only [List.map_append, List.map_cons, List.map_nil, List.append_assoc, List.cons_append, List.nil_append]
        refine List.Perm.append_left _ ?_
        have := (hpush.map (·.key)).symm
        simpa [hek, encU] using this
      · have h2 := hpush.length_eq
        simp only [Array.length_toList, List.length_cons] at h2
        show (leftOf es (seen.push en.born)).size < (leftOf es seen).size
        omega
theorem teachOk (tlen : Nat) (ver : Int) : Yb7 Tryz.prog 5 (kt tlen 188 ver) := by
  intro _ kvs b off v ys d w B xs hs hb hc hr ho hB hl
  refine enter (vs := [.pointer (some ⟨b, off, none⟩), d]) Tryz.func188 rfl Tryz.ntmps188 rfl ?_
  obtain ⟨da, dc, hd⟩ := ho.shape
  repeat first|(with_reducible first|apply Yk|apply Yd|apply Ym|apply Yj|apply Yh|apply Yi|apply Yn|apply Yl|apply Ye|apply Yg|apply Yr|apply Yc|apply Yf|apply Yb|apply Ya)|((with_reducible apply ws);exact rfl;exact rfl)|((with_reducible apply Yo);exact rfl;exact rfl;exact rfl)|((with_reducible apply Yq);exact rfl;exact rfl;exact rfl;exact rfl)|((with_reducible apply Yp);exact rfl;exact rfl;exact rfl)
  refine Xv (cs := [d]) rfl (by rw [hd]; rfl) rfl (fun w1 hb1 hg1 hs1 => ?_)
  have hw1 : Below w.heap.size w w1 := Yx hg1 (Nat.le_refl _) (by simp)
  have hc1 : w1.cell? ⟨b, off, none⟩ = some v := by rw [← hc]; simp only [World.cell?, hw1.block b (by omega)]
  have hr1 : Rep (Lo B) w1 (.mp kvs) [v] := Rep.below hr (hw1.mono hB) (Nat.le_refl _)
  have ho1 := Own.under ho hw1
  repeat first|(with_reducible first|apply Yk|apply Yd|apply Ym|apply Yj|apply Yh|apply Yi|apply Yn|apply Yl|apply Ye|apply Yg|apply Yr|apply Yc|apply Yf|apply Yb|apply Ya)|((with_reducible apply ws);exact rfl;exact rfl)|((with_reducible apply Yo);exact rfl;exact rfl;exact rfl)|((with_reducible apply Yq);exact rfl;exact rfl;exact rfl;exact rfl)|((with_reducible apply Yp);exact rfl;exact rfl;exact rfl)
  refine JC (caps := [.tmp 3]) rfl rfl ?_
  refine Yu rfl (by kernel_rfl) rfl ((fn_each w1 w.heap.size B b off kvs v d xs ys _ hs hb hc1 hr1 hb1 hB ho1 (by omega) (fun e => by have := ho.lt _ e; omega) hl).mono ?_)
  rintro en w2 ⟨rfl, d2, hb2, ho2, hG2⟩
  refine ⟨_, rfl, ?_⟩
  repeat first|(with_reducible first|apply Yk|apply Yd|apply Ym|apply Yj|apply Yh|apply Yi|apply Yn|apply Yl|apply Ye|apply Yg|apply Yr|apply Yc|apply Yf|apply Yb|apply Ya)|((with_reducible apply ws);exact rfl;exact rfl)|((with_reducible apply Yo);exact rfl;exact rfl;exact rfl)|((with_reducible apply Yq);exact rfl;exact rfl;exact rfl;exact rfl)|((with_reducible apply Yp);exact rfl;exact rfl;exact rfl)
  refine Yv rfl to_bytes rfl hb2 rfl ?_
  repeat first|(with_reducible first|apply Yk|apply Yd|apply Ym|apply Yj|apply Yh|apply Yi|apply Yn|apply Yl|apply Ye|apply Yg|apply Yr|apply Yc|apply Yf|apply Yb|apply Ya)|((with_reducible apply ws);exact rfl;exact rfl)|((with_reducible apply Yo);exact rfl;exact rfl;exact rfl)|((with_reducible apply Yq);exact rfl;exact rfl;exact rfl;exact rfl)|((with_reducible apply Yp);exact rfl;exact rfl;exact rfl)
  refine Yt rfl rfl ⟨d2, rfl, ho2, ⟨⟨hG2.chg.os.trans hw1.os, hG2.chg.tape.trans hw1.tape, hG2.chg.output.trans hw1.output, by have := hG2.chg.size; omega, fun k hk hn => ?_⟩, ?_⟩⟩
  · rw [hG2.chg.block k (by omega) (fun h => by
      rcases h with h | h
      · omega
      · exact hn h.symm)]
    exact hw1.block k hk
  · rcases hG2.fresh with h | h
    · exact .inl h
    · exact .inr (fun q hq => by have := h q hq; omega)
end Go.Proofs.YtgjplodgdgaakaaGreatDoor.Rdk

/- A whole function that appends. Over any program. -/
namespace Go.Proofs.YtgjplodgdgaakaaGreatDoor
open Go Go.RowKit

def tmpOf (r : Array ResultVar) : Option Nat := match r with
  | ⟨[.tmp u]⟩ => some u
  | _ => none
theorem tmpOf_out {r : Array ResultVar} {t : Nat} (h : tmpOf r = some t) : r = #[.tmp t] := by
  unfold tmpOf at h
  split at h
  · cases h; rfl
  · cases h
def appRun (P : Program) (K : Kt) (u8 f : Nat) (sh : List Ck) : Option (Option Sy × List Out × Bool) := match P.funcs[f]? with
  | some fn => (match fn.body, tmpOf fn.results with
    | some c, some r => bif Ut P f && Nat.ble 2 fn.ntmps then (match runS P K fn.ntmps u8 4000 [sh] [] ([(0, .at_ 0 0)], [1]) c with
      | some x => some (evS x.1 (.tmp r), x.2.1, x.2.2)
      | none => none) else none
    | _, _ => none)
  | none => none
theorem app_ok {P : Program} {K : Kt} {u8 f : Nat} {sh : List Ck} {os : List Out} (hT : Yj9 P K) (hK : FnsOk P u8 K) (hE : Yb7 P u8 K) (h : appRun P K u8 f sh = some (some .dst, os, true)) {B b : Nat} {w : World} {cs : List Value} {ds : List D} {d : Value} {xs ys : List UInt8}
    (hit : ItOk B w ⟨b, 0, 0, cs, ds⟩) (hsh : shDs ds = sh) (hver : cs[0]? = some K.ver) (ho : Own w B u8 d xs) (hB : B ≤ w.heap.size) (hs : Ul [ds] os = some ys) (hl : xs.length + ys.length ≤ lim) :
    Ut P f = true ∧ Calls P f #[.pointer (some ⟨b, 0, none⟩), d] w fun e w' => ∃ d', e = .returned d' ∧ Own w' B u8 d' (xs ++ ys) ∧ Grew w w' d d' := by
  unfold appRun at h
  split at h
  · rename_i fn hfn
    split at h
    · rename_i c r hbody hres
      cases hc : Ut P f && Nat.ble 2 fn.ntmps with
      | false => rw [hc] at h; cases h
      | true =>
        rw [hc] at h
        simp only [cond_true] at h
        rw [Bool.and_eq_true] at hc
        have hn : 2 ≤ fn.ntmps := Nat.le_of_ble_eq_true hc.2
        split at h
        · rename_i x hx
          simp only [Option.some.injEq, Prod.mk.injEq] at h
          obtain ⟨h1, h2, h3⟩ := h
          refine ⟨hc.1, calls_of_wp hfn hbody ?_⟩
          have hrun := runS_ok (B := B) hT hK hE _ _ _ _ _ x.1 x.2.1 x.2.2 (by rw [hx])
          refine hrun [⟨b, 0, 0, cs, ds⟩] _ w d xs ys _ (by simp) ⟨?_, ?_, ?_, ?_⟩ (fun q hq => by cases hq) ho hB (by rw [h2]; simpa using hs) hl ?_
          · refine ⟨by simp; omega, rfl, fun t s e => ?_, fun t e => ?_⟩
            · simp only [lkS] at e
              cases hb : Nat.beq 0 t with
              | false => rw [hb] at e; cases e
              | true =>
                rw [hb] at e
                have := Ys hb; subst this
                simp only [cond_true, Option.some.injEq] at e
                subst e
                simp only [den, gt, Array.getD_eq_getD_getElem?]
                rw [Array.getElem?_append_left (by simp)]; rfl
            · have : 1 = t := by simpa [memN] using e
              subst this
              simp only [gt, Array.getD_eq_getD_getElem?]
              rw [Array.getElem?_append_left (by simp)]; rfl
          · intro it hi; simp at hi; subst hi; exact hit
          · refine ⟨rfl, fun k x hx => ?_⟩
            cases k with
            | zero => simp at hx; subst hx; simp [hsh]
            | succ k => simp at hx
          · intro it hi; simp at hi; subst hi; exact hver
          · intro a' w' d' H' ho' hg'
            rw [h3]
            have hd := (H'.kn.eval h1).1 rfl
            refine ⟨H'.kn.defers, d', ?_, d', rfl, ho', hg'⟩
            rw [results_tmp (tmpOf_out hres)]
            rw [Xf] at hd
            simp only [gt] at hd
            rw [hd]
        · cases h
    · cases h
  · cases h
end Go.Proofs.YtgjplodgdgaakaaGreatDoor

/- What is read of what is written: a whole struct. No program in sight. -/
namespace Go.Proofs.YtgjplodgdgaakaaGreatDoor
open Go Go.RowKit

theorem endR_out {flex : Bool} {off : Nat} {a r : List Ra} (h : endR flex off a = some r) : (flex = true ∧ a = .tags off :: r) ∨ (flex = false ∧ a = r) := by
  unfold endR at h
  cases flex with
  | false => simp only [Bool.false_eq_true, if_false, Option.some.injEq] at h; exact .inr ⟨rfl, h⟩
  | true =>
    simp only [if_true] at h
    split at h
    · rename_i o r'
      cases hb : Nat.beq o off with
      | false => rw [hb] at h; cases h
      | true =>
        rw [hb] at h
        simp only [cond_true, Option.some.injEq] at h
        subst h
        rw [Ys hb]
        exact .inl ⟨rfl, rfl⟩
    · cases h
theorem isEnd_out {flex : Bool} {off : Nat} {a : List Ra} (h : isEnd flex off a = true) : endR flex off a = some [] := by
  unfold isEnd at h
  split at h
  · assumption
  · cases h
theorem isPrim_out {p : Rp} {a : List Ra} (h : isPrim p a = true) : a = [.prim p 0] := by
  unfold isPrim at h
  split at h
  · rw [rpEq_out h]
  · cases h
/-- What a part of the acts VV of a part of the octets. -/
def Ya6 (_ver : Int) (_tg _flex : Bool) (sh : List Ck) (H : List D → Prop) (a r : List Ra) (off : Nat) (ys : List UInt8) : Prop :=
  ∀ (pre mid post : List D) (s : List UInt8), shDs mid = sh → Ye5 pre → Ye5 mid → D.widths pre = off →
    ∃ new new', rdAs a (pre ++ mid ++ post) (ys ++ s) = rdAs r (pre ++ new ++ post) s ∧ shDs new = sh ∧ Ye5 new ∧ H new' ∧ shDs new' = sh ∧ pos new' ∧ Imp new new'
theorem reads_tags {ver : Int} {tg flex : Bool} (htg : flex = true → tg = true) {a r : List Ra} {off : Nat} {t : Tree} {fs : List Fld} (h : endR flex off a = some r) (hu : FitU fs t) :
    Ya6 ver tg flex (if tg then [.mp] else []) (Yc5 tg flex t) a r off (if flex then uvar t.u.length ++ t.u.flatMap (fun kv => Jq kv.1 kv.2) else []) := by
  intro pre mid post s hsh hpre hmid hw
  rcases endR_out h with ⟨rfl, rfl⟩ | ⟨rfl, rfl⟩
  · have := htg rfl
    subst this
    simp only [if_true] at hsh ⊢
    have hr : Vh t.u := by rw [← hu.1]; exact Jo _ _
    refine ⟨[Uz t.u], [Uz t.u], ?_, by simp [shDs, Uz, shD], fun d hd => by simp at hd; subst hd; rfl, by simp [Yc5], by simp [shDs, Uz, shD], fun d hd => by simp at hd; subst hd; simp [Uz, D.width], Imp.refl _⟩
    simp only [rdAs, rdA]
    rw [tagsP_ok t.u s hr hu.2.1 hu.2.2]
    simp only [Option.bind_some]
    subst hw
    rw [Yi2 (VA hpre) (VA hmid) (by rw [hsh]; simp [shDs, Uz, shD])]
    rfl
  · refine ⟨mid, mid, by simp, hsh, hmid, ?_, hsh, VA hmid, Imp.refl _⟩
    unfold Yc5
    cases tg with
    | false =>
      simp only [Bool.false_eq_true, if_false] at hsh ⊢
      have := unit_len hmid
      rw [hsh] at this
      exact List.length_eq_zero_iff.1 this.symm
    | true =>
      simp only [if_true, Bool.false_eq_true, if_false] at hsh ⊢
      have := unit_len hmid
      rw [hsh] at this
      obtain ⟨d, rfl⟩ := List.length_eq_one_iff.1 this.symm
      exact ⟨d, rfl, by simpa [shDs] using hsh⟩
theorem reads_app {ver : Int} {tg flex : Bool} {sh1 sh2 : List Ck} {H1 H2 : List D → Prop} {a b r : List Ra} {off : Nat} {y1 y2 : List UInt8} (h1 : Ya6 ver tg flex sh1 H1 a b off y1) (h2 : Ya6 ver tg flex sh2 H2 b r (off + sh1.length) y2) :
    Ya6 ver tg flex (sh1 ++ sh2) (fun ds => ∃ x y, ds = x ++ y ∧ H1 x ∧ H2 y ∧ shDs x = sh1 ∧ pos x) a r off (y1 ++ y2) := by
  intro pre mid post s hsh hpre hmid hw
  obtain ⟨m1, m2, rfl, k1, k2, u1, u2⟩ := unit_split hmid hsh
  obtain ⟨n1, n1', e1, e2, e3, e4, e5, e6, e7⟩ := h1 pre m1 (m2 ++ post) (y2 ++ s) k1 hpre u1 hw
  obtain ⟨n2, n2', g1, g2, g3, g4, g5, g6, g7⟩ := h2 (pre ++ n1) m2 post s k2 (unit_app hpre e3) u2 (by rw [widths_append, hw, ← shs_width, e2])
  refine ⟨n1 ++ n2, n1' ++ n2', ?_, by rw [shDs_append, e2, g2], unit_app e3 g3, ⟨n1', n2', rfl, e4, g4, e5, e6⟩, by rw [shDs_append, e5, g5], Je e6 g6, Imp.app e7 g7⟩
  have a1 : pre ++ (m1 ++ m2) ++ post = pre ++ m1 ++ (m2 ++ post) := by simp [List.append_assoc]
  have a2 : pre ++ n1 ++ (m2 ++ post) = pre ++ n1 ++ m2 ++ post := by simp [List.append_assoc]
  have a3 : pre ++ (n1 ++ n2) ++ post = pre ++ n1 ++ n2 ++ post := by simp [List.append_assoc]
  rw [a1, List.append_assoc y1, e1, a2, g1, a3]
theorem Ya6.weak {ver : Int} {tg flex : Bool} {sh : List Ck} {H H' : List D → Prop} {a r : List Ra} {off : Nat} {ys : List UInt8} (h : Ya6 ver tg flex sh H a r off ys) (k : ∀ ds, H ds → H' ds) : Ya6 ver tg flex sh H' a r off ys := by
  intro pre mid post s hsh hpre hmid hw
  obtain ⟨n1, n1', e1, e2, e3, e4, e5⟩ := h pre mid post s hsh hpre hmid hw
  exact ⟨n1, n1', e1, e2, e3, k _ e4, e5⟩
theorem Ya5 {ver : Int} {tg flex : Bool} (htg : flex = true → tg = true) {a b r : List Ra} {off : Nat} {t : Tree} {fs : List Fld} (h1 : Ya6 ver tg flex (shFs tg fs) (Vs ver tg flex fs 0 t) a b off (wFs ver flex fs 0 t)) (h : endR flex (off + (shFs tg fs).length) b = some r) (hf : FitT ver fs t) :
    Ya6 ver tg flex (shP tg fs) (UF ver tg flex fs t) a r off (YO ver flex fs t) := by
  have e : YO ver flex fs t = wFs ver flex fs 0 t ++ (if flex then uvar t.u.length ++ t.u.flatMap (fun kv => Jq kv.1 kv.2) else []) := by
    unfold YO
    rw [Yi6 hf.1 hf.2]
    cases flex <;> simp [asm]
  rw [e]
  exact (reads_app h1 (reads_tags htg h hf.2)).weak (fun ds ⟨x, y, e1, e2, e3, _⟩ => ⟨x, y, e1, e2, e3⟩)
theorem JE (l : List Value) : Ye5 (Xj l) := by
  intro d hd
  simp only [Xj, List.mem_map] at hd
  obtain ⟨u, _, rfl⟩ := hd
  rfl
mutual
theorem mF_ok (ver : Int) (tg flex : Bool) (htg : flex = true → tg = true) : ∀ (f : Fld) (a r : List Ra) (off : Nat), mF ver tg flex off f a = some r → ∀ t, FitF ver f t → Ya6 ver tg flex (shF tg f) (HoldF ver tg flex f t) a r off (Xn ver flex f t)
  | .mk kind fr upto nul tag df of sub, a, r, off, h, t, hfit => by
    have hM : XQ = 32767 := rfl
    simp only [mF] at h
    simp only [FitF] at hfit
    obtain ⟨hnul, h8, hfit⟩ := hfit
    have hH : ∀ ds, HoldF ver tg flex (.mk kind fr upto nul tag df of sub) t ds ↔ _ := fun ds => HoldF_mk ver tg flex kind fr upto nul tag df of sub t ds
    rw [VR ver flex kind fr upto nul tag df of sub t _ rfl]
    by_cases h11 : kind = 11
    · simp only [h11, if_true] at h hfit hH ⊢
      obtain ⟨hlen, hst, hpr⟩ := hfit
      have hth := Yf6 hlen
      split at h
      · rename_i c nb o st dfl body rr
        cases hc : (c == flex) && (nb == decide (0 ≤ nul ∧ nul ≤ ver)) && Nat.beq o off && (st == decide (of = 10)) && decide (shDs (Xj dfl) = shE tg of sub) &&
          (if of = 10 then (flex || ne1 ver sub) && endsO flex (shFs tg sub).length (mFs ver tg flex 0 sub body) else isPrim (rpV of (-1) ver flex) body) with
        | false => rw [hc] at h; cases h
        | true =>
          rw [hc] at h
          simp only [cond_true, Option.some.injEq] at h
          subst h
          simp only [Bool.and_eq_true, beq_iff_eq, decide_eq_true_eq] at hc
          obtain ⟨⟨⟨⟨⟨g1, g2⟩, g3⟩, g4⟩, g5⟩, g6⟩ := hc
          subst g1
          have := Ys g3; subst this
          -- the elements
          have hel : ∀ s, ∃ dss els, VO body (Xj dfl) t.l.length (t.l.flatMap (Xu of c false (YO ver c sub)) ++ s) = some (dss, s) ∧ dss.length = t.l.length ∧ els.length = t.l.length ∧ Imp (dss.map (elD st)) els ∧
              (if of = 10 then ∀ i, i < t.l.length → ∃ ps, els[i]? = some (.agg ps) ∧ UF ver tg c sub (att t i) ps else els = t.l.map (Xx of (-1))) := by
            intro s
            by_cases h10 : of = 10
            · simp only [h10, if_true, decide_true, Bool.and_eq_true] at g4 g5 g6 ⊢
              subst g4
              obtain ⟨g6, g7⟩ := g6
              unfold endsO at g7
              split at g7
              · rename_i r' hr'
                have hend := isEnd_out g7
                rw [show Xu 10 c false (YO ver c sub) = YO ver c sub from funext fun x => by simp [Xu]]
                obtain ⟨dss, e1, e2, e3⟩ := rdRow_ok body (Xj dfl) (YO ver c sub) (fun x nd => ∃ nd', UF ver tg c sub x nd' ∧ Imp nd nd') t.l (fun x hx s => by
                  obtain ⟨hf, hu⟩ := hst h10 x hx
                  have hR := Ya5 (off := 0) htg (mFs_ok ver tg c htg sub body r' 0 hr' 0 x hf) (by rw [Nat.zero_add]; exact hend) ⟨hf, hu⟩
                  obtain ⟨new, new', k1, k2, k3, k4, k5, k6, k7⟩ := hR [] (Xj dfl) [] s (by rw [g5]; simp [shE]) (fun d hd => by cases hd) (JE _) rfl
                  simp only [List.nil_append, List.append_nil, rdAs] at k1
                  exact ⟨new, k1, new', k4, k7⟩) s
                have hch : ∀ i (hi : i < t.l.length), ∃ ps, UF ver tg c sub t.l[i] ps ∧ ∃ nd, dss[i]? = some nd ∧ Imp nd ps := by
                  intro i hi
                  obtain ⟨nd, k1, nd', k2, k3⟩ := e3 i hi
                  exact ⟨nd', k2, nd, k1, k3⟩
                let g : Nat → List D := fun i => if hi : i < t.l.length then Classical.choose (hch i hi) else []
                have hg : ∀ i (hi : i < t.l.length), UF ver tg c sub t.l[i] (g i) ∧ ∃ nd, dss[i]? = some nd ∧ Imp nd (g i) := by
                  intro i hi
                  simp only [g, dif_pos hi]
                  exact Classical.choose_spec (hch i hi)
                refine ⟨dss, (List.range t.l.length).map (fun i => .agg (g i)), e1, e2, by simp, ?_, fun i hi => ⟨g i, by simp [hi], by rw [att_get hi]; exact (hg i hi).1⟩⟩
                refine imp_list (by simp [e2]) (fun i x y hx hy => ?_)
                simp only [List.getElem?_map, Option.map_eq_some_iff] at hx hy
                obtain ⟨nd, hnd, rfl⟩ := hx
                obtain ⟨j, hj, rfl⟩ := hy
                have hi : i < t.l.length := by rw [← e2]; exact (List.getElem?_eq_some_iff.1 hnd).1
                have hji : j = i := by
                  rw [List.getElem?_range hi] at hj
                  simpa using hj.symm
                subst hji
                obtain ⟨_, nd', hnd', him⟩ := hg j hi
                rw [hnd] at hnd'
                simp only [Option.some.injEq] at hnd'
                subst hnd'
                simp only [elD, if_true]
                refine Imp.one (fun ok w cs hr => ?_)
                simp only [Rep] at hr ⊢
                exact him ok w cs hr
              · cases g7
            · simp only [h10, if_false, decide_false] at g4 g5 g6 ⊢
              subst g4
              obtain ⟨⟨h11', h7⟩, hv⟩ := hpr h10
              have hb := isPrim_out g6
              subst hb
              obtain ⟨dss, e1, e2, e3⟩ := rdRow_ok [.prim (rpV of (-1) ver c) 0] (Xj dfl) (Xu of c false (YO ver c sub)) (fun x nd => nd = [Xx of (-1) x]) t.l (fun x hx s => by
                obtain ⟨nd, d, k1, k2, k3, k4, k5, k6⟩ := rdP_ok of (-1) ver c x (YO ver c sub) s (hv x hx) (by omega) (by omega) h10
                have hd : d = Xx of (-1) x ∨ of = 9 := by
                  unfold Yj5 at k4
                  split at k4
                  · rename_i hh; exact .inr hh.1
                  · exact .inl k4
                have hnd := k6 h7
                simp only [rdAs_one, rdA]
                have e : (x.nul && decide ((0 : Int) ≤ -1) && decide ((-1 : Int) ≤ ver)) = false := by simp
                rw [e] at k1
                rw [k1]
                simp only [Option.bind_some]
                have hput := Yi2 (a := []) (m := Xj dfl) (b := []) (new := nd) (fun d hd => by cases hd) (VA (JE _)) (by rw [g5, k2]; simp [shE, h10])
                simp only [D.widths, List.nil_append, List.append_nil] at hput
                rw [hput]
                refine ⟨nd, rfl, ?_⟩
                rcases hd with hd | hd
                · rw [hnd, hd]
                · subst hd
                  have : rdP (rpV 9 (-1) ver c) (Xu 9 c false (YO ver c sub) x ++ s) = some ([.sq (x.s.map byteD)], s) := by
                    have hs := hv x hx (.inr rfl)
                    have hwh := UI hs
                    have er : rpV 9 (-1) ver c = (if c then .cbytes else .bytes) := by simp [rpV]
                    rw [er]
                    cases c
                    · simp only [Xu, YF]
                      simp [rdP, hwh]
                      rw [Vz .i32 4 32 rfl rfl]
                      have hw : IntKind.i32.wrap (x.s.length : Int) = x.s.length := by rw [IntKind.wrap_i32]; omega
                      simp only [Option.bind_some, hw]
                      rw [if_neg (by omega), Vf _ _ _ rfl]; rfl
                    · simp only [Xu, YF]
                      simp [rdP, hwh]
                      rw [Xz _ _ (by omega)]
                      simp only [Option.bind_some]
                      rw [if_neg (by omega), Vf _ _ _ (by omega)]; rfl
                  rw [this] at k1
                  simp only [Option.some.injEq, Prod.mk.injEq, and_true] at k1
                  rw [← k1]
                  simp [Xx]) s
              refine ⟨dss, t.l.map (Xx of (-1)), e1, e2, by simp, ?_, rfl⟩
              refine imp_list (by simp [e2]) (fun i x y hx hy => ?_)
              simp only [List.getElem?_map, Option.map_eq_some_iff] at hx hy
              obtain ⟨nd, hnd, rfl⟩ := hx
              obtain ⟨z, hz, rfl⟩ := hy
              have hi : i < t.l.length := (List.getElem?_eq_some_iff.1 hz).1
              obtain ⟨nd', h1, h2⟩ := e3 i hi
              rw [hnd] at h1
              simp only [Option.some.injEq] at h1
              subst h1
              rw [List.getElem?_eq_getElem hi] at hz
              simp only [Option.some.injEq] at hz
              subst hz
              subst h2
              simp only [elD, Bool.false_eq_true, if_false]
              exact Imp.refl _
          -- the count
          have hpos : ∀ x ∈ t.l, 1 ≤ (Xu of c false (YO ver c sub) x).length := by
            intro x hx
            by_cases h10 : of = 10
            · simp only [h10, if_true, Bool.and_eq_true] at g6
              have := wPart_pos ver c sub x g6.1
              simpa [h10, Xu] using this
            · exact wVal_pos _ _ _ _ _ h10
          have hfl := Yg9 (Xu of c false (YO ver c sub)) t.l hpos
          intro pre mid post s hsh hpre hmid hw
          have shx : shF tg (.mk 11 fr upto nul tag df of sub) = [.sl] := by simp [shF]
          rw [shx] at hsh ⊢
          obtain ⟨dss, els, e1, e2, e3, e4, e5⟩ := hel s
          obtain ⟨nulb, hnb⟩ : ∃ nulb, (t.nul && decide (0 ≤ nul) && decide (nul ≤ ver)) = nulb := ⟨_, rfl⟩
          rw [hnb]
          have hput : ∀ d : D, shD d = [.sl] → putD (pre ++ mid ++ post) o [d] = some (pre ++ [d] ++ post) := by
            intro d hd
            subst hw
            exact Yi2 (VA hpre) (VA hmid) (by rw [hsh]; simp [shDs, hd])
          have fin : ∀ d d', rowP c nb st dfl body ((YF c nulb (if nulb then [] else Xq t.l).length 4 ++ (if nulb then [] else Xq t.l).flatMap (Xu of c false (YO ver c sub))) ++ s) = some (d, s) → shD d = [.sl] → shD d' = [.sl] → d.width = 1 → d'.width = 1 → HoldF ver tg c (.mk 11 fr upto nul tag df of sub) t [d'] → Imp [d] [d'] →
              ∃ new new', rdAs (.row c nb o st dfl body :: rr) (pre ++ mid ++ post) ((YF c nulb (if nulb then [] else Xq t.l).length 4 ++ (if nulb then [] else Xq t.l).flatMap (Xu of c false (YO ver c sub))) ++ s) = rdAs rr (pre ++ new ++ post) s ∧ shDs new = [.sl] ∧ Ye5 new ∧ HoldF ver tg c (.mk 11 fr upto nul tag df of sub) t new' ∧ shDs new' = [.sl] ∧ pos new' ∧ Imp new new' := by
            intro d d' k1 k2 k3 k4 k5 k6 k7
            refine ⟨[d], [d'], ?_, by simp [shDs, k2], fun x hx => by simp at hx; subst hx; exact k4, k6, by simp [shDs, k3], fun x hx => by simp at hx; subst hx; rw [k5]; omega, k7⟩
            simp only [rdAs]
            rw [rdA_row, k1]
            simp only [Option.bind_some]
            rw [hput d k2]
            rfl
          cases nulb with
          | true =>
            simp only [Bool.and_eq_true, decide_eq_true_eq] at hnb
            have hnbt : nb = true := by rw [g2]; simp [hnb.1.2, hnb.2]
            refine fin (.sl true []) (.sl true []) ?_ rfl rfl rfl rfl ((hH _).2 ⟨_, rfl, .inl ⟨hnb.1.2, hnb.1.1, rfl⟩⟩) (Imp.refl _)
            simp only [if_true, List.length_nil, List.flatMap_nil, List.append_nil]
            rw [rowP, lenP_ok c true 0 s (by omega) (.inl rfl)]
            simp [VO, hnbt]
          | false =>
            have hnn : ¬ (0 ≤ nul ∧ t.nul = true) := by
              rintro ⟨a1, a2⟩
              have a3 := hnul a1 a2
              rw [a2] at hnb
              simp [a1, a3] at hnb
            have hrow : rowP c nb st dfl body ((YF c false t.l.length 4 ++ t.l.flatMap (Xu of c false (YO ver c sub))) ++ s) = some (if nb then .sl false (dss.map (elD st)) else .sq (dss.map (elD st)), s) := by
              rw [rowP, List.append_assoc, lenP_ok c false t.l.length _ hlen (.inr (by rw [List.length_append]; omega))]
              simp only [Bool.false_eq_true, if_false, Option.bind_some, Int.toNat_natCast]
              rw [e1]
              simp only [Option.map_some]
              rw [if_neg (by omega : ¬ ((t.l.length : Int) < 0))]
            have hlm : (dss.map (elD st)).length = els.length := by simp [e2, e3]
            simp only [Bool.false_eq_true, if_false, hth] at fin ⊢
            cases hnb2 : nb with
            | true =>
              rw [hnb2] at hrow
              rw [hnb2] at fin
              exact fin _ (.sl false els) hrow rfl rfl rfl rfl ((hH _).2 ⟨_, rfl, .inr ⟨hnn, rfl, rfl, false, els, rfl, fun _ _ => rfl, e3, e5⟩⟩) (imp_sl hlm e4)
            | false =>
              rw [hnb2] at hrow g2
              rw [hnb2] at fin
              refine fin _ (.sq els) hrow rfl rfl rfl rfl ((hH _).2 ⟨_, rfl, .inr ⟨hnn, rfl, rfl, false, els, rfl, fun a1 a2 => ?_, e3, e5⟩⟩) (imp_sq hlm e4)
              simp [a1, a2] at g2
      · cases h
    · simp only [h11, if_false] at h hfit hH ⊢
      by_cases h10 : kind = 10
      · simp only [h10, if_true] at h hfit hH ⊢
        by_cases hn : 0 ≤ nul
        · simp only [hn, if_true] at h
          cases h
        · simp only [hn, if_false, and_false] at h hH ⊢
          split at h
          · rename_i r1 hr1
            have hR := Ya5 htg (mFs_ok ver tg flex htg sub a r1 off hr1 0 t hfit.1) h hfit
            have es : shF tg (.mk 10 fr upto nul tag df of sub) = shP tg sub := by simp [shF, hn, shP]
            rw [es]
            simp only [Xu]
            exact hR.weak (fun ds hd => (hH ds).2 hd)
          · cases h
      · simp only [h10, if_false, false_and] at h hfit hH ⊢
        split at h
        · rename_i p o rr
          cases hb : rpEq p (rpV kind nul ver flex) && Nat.beq o off with
          | false => rw [hb] at h; cases h
          | true =>
            rw [hb] at h
            simp only [cond_true, Option.some.injEq] at h
            subst h
            rw [Bool.and_eq_true] at hb
            have := rpEq_out hb.1; subst this
            have := Ys hb.2; subst this
            have es : shF tg (.mk kind fr upto nul tag df of sub) = shV kind nul := by simp [shF, h11, h10]
            rw [es]
            intro pre mid post s hsh hpre hmid hw
            obtain ⟨nd, d, k1, k2, k3, k4, k5, _⟩ := rdP_ok kind nul ver flex t (YO ver flex sub) s hfit hnul h8 h10
            have hsd : shDs [d] = shV kind nul := by
              unfold Yj5 at k4
              split at k4
              · rename_i hh
                rw [hh.1]
                simp [shDs, k4.2.1, shV]
              · rw [k4]; simp only [shDs, List.append_nil, Yg0]
            refine ⟨nd, [d], ?_, k2, k3, (hH _).2 ⟨d, rfl, k4⟩, hsd, fun x hx => ?_, k5⟩
            · simp only [rdAs, rdA]
              rw [k1]
              simp only [Option.bind_some]
              subst hw
              rw [Yi2 (VA hpre) (VA hmid) (by rw [hsh, k2])]
              rfl
            · simp at hx; subst hx
              have h1 : (shDs [x]).length = (shV kind nul).length := by rw [hsd]
              rw [shs_width] at h1
              simp only [D.widths, Nat.add_zero] at h1
              rw [h1]
              unfold shV
              repeat' split
              all_goals simp
        · cases h
theorem mFs_ok (ver : Int) (tg flex : Bool) (htg : flex = true → tg = true) : ∀ (fs : List Fld) (a r : List Ra) (off : Nat), mFs ver tg flex off fs a = some r → ∀ i t, Jm ver fs i t → Ya6 ver tg flex (shFs tg fs) (Vs ver tg flex fs i t) a r off (wFs ver flex fs i t)
  | [], a, r, off, h, i, t, hfit => by
    simp only [mFs, Option.some.injEq] at h
    subst h
    intro pre mid post s hsh hpre hmid hw
    have : mid = [] := by
      have := unit_len hmid
      rw [hsh] at this
      exact List.length_eq_zero_iff.1 this.symm
    subst this
    exact ⟨[], [], by simp [wFs], rfl, hmid, by simp [Vs], rfl, (fun d hd => by cases hd), Imp.refl _⟩
  | f :: fs, a, r, off, h, i, t, hfit => by
    simp only [mFs] at h
    simp only [Jm] at hfit
    obtain ⟨htag, hff, hrest⟩ := hfit
    split at h
    · rename_i b hb
      have h2 := mFs_ok ver tg flex htg fs b r (off + (shF tg f).length) h (i + 1) t hrest
      have key : Ya6 ver tg flex (shF tg f) (fun ds => f.has ver = true → HoldF ver tg flex f (att t i) ds) a b off (if f.tag < 0 ∧ f.has ver = true then Xn ver flex f (att t i) else []) := by
        by_cases hx : f.has ver = true
        · rw [if_pos hx] at hb
          rw [if_pos ⟨htag, hx⟩]
          exact (mF_ok ver tg flex htg f a b off hb (att t i) (hff hx)).weak (fun ds hd _ => hd)
        · rw [if_neg hx] at hb
          rw [if_neg (fun e => hx e.2)]
          simp only [Option.some.injEq] at hb
          subst hb
          intro pre mid post s hsh hpre hmid hw
          exact ⟨mid, mid, by simp, hsh, hmid, fun e => absurd e hx, hsh, VA hmid, Imp.refl _⟩
      have := reads_app key h2
      simp only [wFs, shFs]
      exact this.weak (fun ds ⟨x, y, e1, e2, e3, e4, e5⟩ => by simp only [Vs]; exact ⟨x, y, e1, e4, e5, e2, e3⟩)
    · cases h
end
/-- What is read of a written struct. -/
theorem mP_ok {ver : Int} {tg flex : Bool} (htg : flex = true → tg = true) {fs : List Fld} {a r : List Ra} {off : Nat} (h : mP ver tg flex off fs a = some r) {t : Tree} (hf : FitT ver fs t) : Ya6 ver tg flex (shP tg fs) (UF ver tg flex fs t) a r off (YO ver flex fs t) := by
  unfold mP at h
  split at h
  · rename_i b hb
    exact Ya5 htg (mFs_ok ver tg flex htg fs a b off hb 0 t hf.1) h hf
  · cases h
end Go.Proofs.YtgjplodgdgaakaaGreatDoor

/- Reading a whole message: checked by reckoning, told in the reference's words. Over any program. -/
namespace Go.Proofs.YtgjplodgdgaakaaGreatDoor
open Go Go.RowKit

def isVer (ver : Int) (v : Value) : Bool := match v with
  | .int .i16 n => decide (n = ver) && decide (IntKind.i16.wrap n = n)
  | _ => false
def headVer (ver : Int) : List Value → Bool
  | v :: _ => isVer ver v
  | [] => false
/-- Does this function read this message at this version? -/
def readOk (P : Program) (K : Kr) (f : Nat) (ver : Int) (tg flex : Bool) (fs : List Fld) (cs : List Value) : Bool := match readF P K f cs with
  | some x => headVer ver x.1 && decide (shDs (Xj x.1) = .int .i16 :: shP tg fs) && endsA (mP ver tg flex 1 fs x.2)
  | none => false
where endsA : Option (List Ra) → Bool
  | some [] => true
  | _ => false
theorem read_ok {P : Program} {K : Kr} {g : Nat} {ev : Value} {w : World} (hK : KrOk P K g ev) (hT : KrTy P K) {f : Nat} {ver : Int} {tg flex : Bool} (htg : flex = true → tg = true) {fs : List Fld} {cs : List Value} (h : readOk P K f ver tg flex fs cs = true) {t : Tree} (hf : FitT ver fs t)
    {b sb : Nat} {e : TypeId} {v : Value} (hb : Box w b cs e) (hv : SrcAt w sb v (YO ver flex fs t)) (hsb : sb < w.heap.size) (hne : b ≠ sb) (hg : w.cell? ⟨g, 0, none⟩ = some ev) (hgb : g ≠ b) (hgl : g < w.heap.size) :
    Ut P f = true ∧ Calls P f #[.pointer (some ⟨b, 0, none⟩), v, .bool false] w fun en w' => en = .returned .nilIface ∧ ∃ cs' lo new, w.heap.size ≤ lo ∧ Box w' b cs' e ∧ YX (Dk sb lo w') w' (.lit (.int .i16 ver) :: new) cs' ∧ UF ver tg flex fs t new ∧ Chg (fun j => j = b ∨ w.heap.size ≤ j) w w' := by
  unfold readOk at h
  split at h
  · rename_i x hx
    simp only [Bool.and_eq_true, decide_eq_true_eq] at h
    obtain ⟨⟨h1, h2⟩, h3⟩ := h
    have hm : mP ver tg flex 1 fs x.2 = some [] := by
      unfold readOk.endsA at h3
      split at h3
      · assumption
      · cases h3
    obtain ⟨rest, hdfl⟩ : ∃ rest, x.1 = .int .i16 ver :: rest := by
      unfold headVer at h1
      split at h1
      · rename_i v0 r hx1
        unfold isVer at h1
        split at h1
        · rename_i n
          simp only [Bool.and_eq_true, decide_eq_true_eq] at h1
          exact ⟨r, by rw [hx1, h1.1]⟩
        · cases h1
      · cases h1
    have hlit : Xj x.1 = .lit (.int .i16 ver) :: Xj rest := by rw [hdfl]; rfl
    have hsh : shDs (Xj rest) = shP tg fs := by
      rw [hlit] at h2
      simp only [shDs, shD] at h2
      split at h2
      · simpa using h2
      · simp at h2
    obtain ⟨new, new', k1, k2, k3, k4, k5, k6, k7⟩ := mP_ok htg hm hf [.lit (.int .i16 ver)] (Xj rest) [] [] hsh (JE [_]) (JE _) rfl
    simp only [List.append_nil, List.cons_append, List.nil_append] at k1
    have hs : rdAs x.2 (Xj x.1) (YO ver flex fs t) = some (.lit (.int .i16 ver) :: new, []) := by
      rw [hlit, k1]; simp [rdAs]
    obtain ⟨r1, r2⟩ := readF_ok hK hT (dfl := x.1) (acts := x.2) hx hb hv hsb hne hg hgb hgl hs
    refine ⟨r1, r2.mono (fun en w' he => ?_)⟩
    obtain ⟨e1, cs', lo, e2, e3, e4, e5, e6⟩ := he
    exact ⟨e1, cs', lo, new', e2, e3, Imp.app (Imp.refl [.lit (.int .i16 ver)]) k7 _ _ _ e4, k4, e6⟩
  · cases h
end Go.Proofs.YtgjplodgdgaakaaGreatDoor

/- The fitted tree can be written, and what is written of it is what is written of the tree. No program in sight. -/
namespace Go.Proofs.YtgjplodgdgaakaaGreatDoor
open Go Go.RowKit

mutual
/-- What the package's code asks of a table at a version. -/
def tabF (ver : Int) : Fld → Bool
  | .mk kind _ _ nul _ _ of sub => (!decide (kind = 8) || !decide (0 ≤ nul) || decide (nul ≤ ver)) &&
    (if kind = 11 then (if of = 10 then JL ver sub else !decide (of = 11) && !decide (of = 7)) else if kind = 10 then JL ver sub else true)
def JL (ver : Int) : List Fld → Bool
  | [] => true
  | f :: fs => decide (f.tag < 0) && (!f.has ver || tabF ver f) && JL ver fs
end
theorem att_fitL (ver : Int) : ∀ (fs : List Fld) (i0 : Nat) (t t' : Tree) (k : Nat), (∀ j, j < fs.length → att t' (k + j) = (fitL ver fs i0 t).getD j Tree.none) → ∀ j (h : j < fs.length), att t' (k + j) = fitF ver fs[j] (att t (i0 + j)) := by
  intro fs i0 t t' k h j hj
  rw [h j hj, List.getD_eq_getElem?_getD, List.getElem?_eq_getElem (by rw [Jw]; exact hj)]
  simp only [Option.getD_some]
  exact fitL_get ver fs i0 t j hj
theorem att_fitP (ver : Int) (fs : List Fld) (t : Tree) (j : Nat) (h : j < fs.length) : att (Yl2 ver fs t) j = fitF ver fs[j] (att t j) := by
  have := att_fitL ver fs 0 t (Yl2 ver fs t) 0 (fun j hj => by simp [Yl2, att, Tree.l]) j h
  simpa using this
theorem Yd1 (b : Bool) (t : Tree) (i : Nat) : att (t.withNull b) i = att t i := by cases t; rfl
theorem Jb (b : Bool) (t : Tree) : (t.withNull b).u = t.u := by cases t; rfl
theorem withNull_nul (b : Bool) (t : Tree) : (t.withNull b).nul = b := by cases t; rfl
theorem wFs_congr (ver : Int) (flex : Bool) : ∀ (fs : List Fld) (i k : Nat) (t t' : Tree), (∀ j (h : j < fs.length), fs[j].has ver = true → Xn ver flex fs[j] (att t' (k + j)) = Xn ver flex fs[j] (att t (i + j))) → wFs ver flex fs k t' = wFs ver flex fs i t
  | [], _, _, _, _, _ => by simp [wFs]
  | f :: fs, i, k, t, t', h => by
    simp only [wFs]
    have h0 := h 0 (by simp)
    simp only [List.getElem_cons_zero, Nat.add_zero] at h0
    have e : (if f.tag < 0 ∧ f.has ver = true then Xn ver flex f (att t' k) else []) = (if f.tag < 0 ∧ f.has ver = true then Xn ver flex f (att t i) else []) := by
      split
      · rename_i hh; rw [h0 hh.2]
      · rfl
    rw [e]
    congr 1
    exact wFs_congr ver flex fs (i + 1) (k + 1) t t' (fun j hj hh => by
      have := h (j + 1) (by simpa using hj)
      simp only [List.getElem_cons_succ] at this
      rw [show k + 1 + j = k + (j + 1) by omega, show i + 1 + j = i + (j + 1) by omega]
      exact this hh)
theorem Ja {fs : List Fld} (h : ∀ f ∈ fs, f.tag < 0) : YI fs = 0 := known_none fs 0 h
theorem JR {ver : Int} : ∀ {fs : List Fld}, JL ver fs = true → ∀ f ∈ fs, f.tag < 0
  | [], _, f, hf => by cases hf
  | g :: fs, h, f, hf => by
    simp only [JL, Bool.and_eq_true, decide_eq_true_eq] at h
    rcases List.mem_cons.1 hf with rfl | hm
    · exact h.1.1
    · exact JR h.2 f hm
theorem Yl4 (k : Nat) (v : List UInt8) : ∀ (u : List (Nat × List UInt8)), (∀ kv ∈ u, kv.1 < k) → YT k v u = u ++ [(k, v)]
  | [], _ => rfl
  | x :: u, h => by
    have := h x (by simp)
    simp only [YT, if_pos this, Yl4 k v u (fun y hy => h y (by simp [hy])), List.cons_append]
theorem fold_rising : ∀ (u acc : List (Nat × List UInt8)), Vh (acc ++ u) → u.foldl (fun out kv => if kv.1 < 0 then out else YT kv.1 kv.2 out) acc = acc ++ u
  | [], acc, _ => by simp
  | x :: u, acc, h => by
    simp only [List.foldl_cons, Nat.not_lt_zero, if_false]
    rw [Yl4 x.1 x.2 acc (fun kv hkv => (List.pairwise_append.1 h).2.2 kv hkv x (by simp))]
    have ih := fold_rising u (acc ++ [x]) (by simpa [List.append_assoc] using h)
    simp only [Nat.not_lt_zero, if_false] at ih
    rw [ih]; simp
theorem unknown_self {fs : List Fld} {u : List (Nat × List UInt8)} (hk : YI fs = 0) (hr : Vh u) (hl : u.length ≤ XQ) : YZ fs u = u := by
  unfold YZ
  rw [List.take_of_length_le hl, hk]
  have := fold_rising u [] (by simpa using hr)
  simpa using this
theorem Ym0 (k : Nat) (v : List UInt8) : ∀ (u : List (Nat × List UInt8)), (YT k v u).length ≤ u.length + 1
  | [] => by simp [YT]
  | x :: u => by
    simp only [YT]
    have := Ym0 k v u
    split
    · simp; omega
    · split <;> simp
theorem Ym6 (fs : List Fld) (u : List (Nat × List UInt8)) : (YZ fs u).length ≤ XQ := by
  unfold YZ
  have : ∀ (l out : List (Nat × List UInt8)), (l.foldl (fun out kv => if kv.1 < YI fs then out else YT kv.1 kv.2 out) out).length ≤ out.length + l.length := by
    intro l
    induction l with
    | nil => intro out; simp
    | cons x l ih =>
      intro out
      simp only [List.foldl_cons, List.length_cons]
      split
      · have := ih out; omega
      · have := ih (YT x.1 x.2 out); have := Ym0 x.1 x.2 out; omega
  have h := this (u.take XQ) []
  have : (u.take XQ).length ≤ XQ := by simp; omega
  simp only [List.length_nil] at h
  omega
theorem Yh5 (s : List UInt8) : whole (whole s) = whole s := by simp [whole, List.take_take]
theorem whole_len (s : List UInt8) : (whole s).length ≤ XQ := by simp [whole]; omega
theorem others_rising (fs : List Fld) (u : List (Nat × List UInt8)) : Vh (Xw fs u) := by
  unfold Xw Vh
  exact List.pairwise_map.2 (Jo fs u)
theorem Yi9 {fs : List Fld} (hk : YI fs = 0) (u : List (Nat × List UInt8)) : YZ fs (Xw fs u) = Xw fs u := unknown_self hk (others_rising fs u) (by simp [Xw, Ym6])
theorem allTags_fit {ver : Int} {flex : Bool} {fs : List Fld} (hk : YI fs = 0) (t t' : Tree) (h : t'.u = Xw fs t.u) : XS ver flex fs t' = XS ver flex fs t := by
  unfold XS
  rw [hk, h, Yi9 hk]
  simp only [List.range_zero, List.flatMap_nil, List.nil_append, Xw, List.map_map]
  refine List.map_congr_left (fun kv _ => ?_)
  simp [Yh5]
theorem fitVal_w (kind : Int) (flex : Bool) (p q : Tree → Tree) (wp : Tree → List UInt8) (null : Bool) (t : Tree) (h10 : kind = 10 → wp ((p t).withNull null) = wp t) : Xu kind flex null wp (VC kind null p t) = Xu kind flex null wp t := by
  unfold VC
  by_cases h8 : kind = 8 ∨ kind = 9
  · rw [if_pos h8]
    rcases h8 with rfl | rfl <;> simp [Xu, Tree.s, Yh5]
  · rw [if_neg h8]
    by_cases h : kind = 10
    · rw [if_pos h]; subst h; simp only [Xu]; simpa using h10 rfl
    · rw [if_neg h]
      have h8' : kind ≠ 8 := fun e => h8 (.inl e)
      have h9' : kind ≠ 9 := fun e => h8 (.inr e)
      simp [Xu, h8', h9', h, Tree.n, Tree.s]
theorem Ji (kind : Int) (null : Bool) (p : Tree → Tree) (t : Tree) (h : kind = 8 ∨ kind = 9 ∨ kind = 10) : (VC kind null p t).nul = null := by
  unfold VC
  rcases h with rfl | rfl | rfl
  · simp [Tree.nul]
  · simp [Tree.nul]
  · simp [withNull_nul]
theorem fld_null (kind fr upto nul tag df of : Int) (sub : List Fld) (ver : Int) (t : Tree) : (Fld.mk kind fr upto nul tag df of sub).null ver t = (t.nul && decide (0 ≤ nul) && decide (nul ≤ ver)) := rfl
theorem mk_nul (n : Int) (s : List UInt8) (b : Bool) (l : List Tree) (u : List (Nat × List UInt8)) : (Tree.mk n s b l u).nul = b := rfl
theorem mk_l (n : Int) (s : List UInt8) (b : Bool) (l : List Tree) (u : List (Nat × List UInt8)) : (Tree.mk n s b l u).l = l := rfl
theorem wPart_fit_of {ver : Int} {flex : Bool} {fs : List Fld} (ht : ∀ f ∈ fs, f.tag < 0) (h : ∀ j (hj : j < fs.length), fs[j].has ver = true → ∀ x, Xn ver flex fs[j] (fitF ver fs[j] x) = Xn ver flex fs[j] x) (t : Tree) (b : Bool) :
    YO ver flex fs ((Yl2 ver fs t).withNull b) = YO ver flex fs t := by
  unfold YO
  have e1 : wFs ver flex fs 0 ((Yl2 ver fs t).withNull b) = wFs ver flex fs 0 t := wFs_congr ver flex fs 0 0 t _ (fun j hj hh => by
    rw [Yd1]
    simp only [Nat.zero_add]
    rw [att_fitP ver fs t j hj]
    exact h j hj hh _)
  rw [e1, allTags_fit (Ja ht) t _ (by rw [Jb]; rfl)]
mutual
theorem wField_fit (ver : Int) (flex : Bool) : ∀ (f : Fld), f.tag < 0 → tabF ver f = true → ∀ x, Xn ver flex f (fitF ver f x) = Xn ver flex f x
  | .mk kind fr upto nul tag df of sub, htag, htab, x => by
    have htag' : ¬ (0 ≤ tag) := by have : tag < 0 := htag; omega
    simp only [tabF, Bool.and_eq_true] at htab
    obtain ⟨h8, htab⟩ := htab
    rw [fitF_eq]
    rw [fld_null]
    simp only [Fld.kind, Fld.tag, Fld.of, Fld.sub]
    by_cases h11 : kind = 11
    · simp only [h11, if_true] at htab ⊢
      rw [VR ver flex 11 fr upto nul tag df of sub _ _ rfl, VR ver flex 11 fr upto nul tag df of sub x _ rfl]
      simp only [htag', decide_false, Bool.false_and, Bool.or_false, mk_nul, mk_l, if_true]
      have en : (x.nul && decide (0 ≤ nul) && decide (nul ≤ ver) && decide (0 ≤ nul) && decide (nul ≤ ver)) = (x.nul && decide (0 ≤ nul) && decide (nul ≤ ver)) := by
        cases x.nul <;> cases decide (0 ≤ nul) <;> cases decide (nul ≤ ver) <;> rfl
      rw [en]
      have el : Xq ((Xq x.l).map (VC of false (Yl2 ver sub))) = (Xq x.l).map (VC of false (Yl2 ver sub)) := Yf6 (by simp [Xq]; omega)
      rw [el]
      generalize (x.nul && decide (0 ≤ nul) && decide (nul ≤ ver)) = nb
      cases nb with
      | true => rfl
      | false =>
        simp only [Bool.false_eq_true, if_false, List.length_map, List.flatMap_map]
        congr 1
        refine congrArg (fun g => (Xq x.l).flatMap g) (funext fun y => ?_)
        refine fitVal_w of flex _ (Yl2 ver sub) _ false y (fun h10 => ?_)
        rw [if_pos h10] at htab
        exact Yj7 ver flex sub htab y false
    · simp only [h11, if_false] at htab ⊢
      rw [VR ver flex kind fr upto nul tag df of sub _ _ rfl, VR ver flex kind fr upto nul tag df of sub x _ rfl]
      simp only [h11, if_false]
      by_cases h10 : kind = 10
      · simp only [h10, if_true] at htab
        subst h10
        rw [Ji 10 _ _ _ (.inr (.inr rfl))]
        have en : (x.nul && decide (0 ≤ nul) && decide (nul ≤ ver) && decide (0 ≤ nul) && decide (nul ≤ ver)) = (x.nul && decide (0 ≤ nul) && decide (nul ≤ ver)) := by
          cases x.nul <;> cases decide (0 ≤ nul) <;> cases decide (nul ≤ ver) <;> rfl
        rw [en]
        have ew : YO ver flex sub (VC 10 (x.nul && decide (0 ≤ nul) && decide (nul ≤ ver)) (Yl2 ver sub) x) = YO ver flex sub x := by
          simp only [VC]
          exact Yj7 ver flex sub htab x _
        simp only [Xu, ew]
        rfl
      · simp only [h10, false_and, if_false]
        by_cases h89 : kind = 8 ∨ kind = 9
        · rw [Ji kind _ _ _ (by rcases h89 with h | h; exact .inl h; exact .inr (.inl h))]
          have en : (x.nul && decide (0 ≤ nul) && decide (nul ≤ ver) && decide (0 ≤ nul) && decide (nul ≤ ver)) = (x.nul && decide (0 ≤ nul) && decide (nul ≤ ver)) := by
            cases x.nul <;> cases decide (0 ≤ nul) <;> cases decide (nul ≤ ver) <;> rfl
          rw [en]
          exact fitVal_w kind flex _ (Yl2 ver sub) _ _ x (fun h => absurd h h10)
        · have a8 : kind ≠ 8 := fun e => h89 (.inl e)
          have a9 : kind ≠ 9 := fun e => h89 (.inr e)
          simp [VC, Xu, a8, a9, h10, Tree.n, Tree.s]
theorem Yj7 (ver : Int) (flex : Bool) : ∀ (fs : List Fld), JL ver fs = true → ∀ (t : Tree) (b : Bool), YO ver flex fs ((Yl2 ver fs t).withNull b) = YO ver flex fs t
  | fs, h, t, b => wPart_fit_of (JR h) (wEach_fit ver flex fs h) t b
theorem wEach_fit (ver : Int) (flex : Bool) : ∀ (fs : List Fld), JL ver fs = true → ∀ j (hj : j < fs.length), fs[j].has ver = true → ∀ x, Xn ver flex fs[j] (fitF ver fs[j] x) = Xn ver flex fs[j] x
  | [], _, j, hj, _ => by cases hj
  | f :: fs, h, j, hj, hh => by
    simp only [JL, Bool.and_eq_true, Bool.or_eq_true, Bool.not_eq_true', decide_eq_true_eq] at h
    cases j with
    | zero =>
      intro x
      simp only [List.getElem_cons_zero] at hh ⊢
      refine wField_fit ver flex f h.1.1 ?_ x
      rcases h.1.2 with h1 | h1
      · rw [hh] at h1; cases h1
      · exact h1
    | succ j => exact wEach_fit ver flex fs h.2 j (by simpa using hj) hh
end
end Go.Proofs.YtgjplodgdgaakaaGreatDoor

/- What the walks ask of trees and fields, as plain facts. No Go in sight. -/
namespace Go.Proofs.YtgjplodgdgaakaaGreatDoor

mutual
/-- Lengths and tags Yl6 what a machine holds. -/
def Tree.ok : Tree → Prop
  | .mk _ s _ l u => s.length ≤ 9223372036854775807 ∧ (∀ kv ∈ u, kv.1 < 4294967296) ∧ Tree.oks l
def Tree.oks : List Tree → Prop
  | [] => True
  | t :: l => t.ok ∧ Tree.oks l
end
mutual
def Fld.okb : Fld → Bool
  | .mk _ _ _ _ tag _ of sub => decide (tag < 2147483647) && decide (of ≠ 11) && Nat.ble sub.length 1000 && Fld.oksb sub
def Fld.oksb : List Fld → Bool
  | [] => true
  | f :: l => f.okb && Fld.oksb l
end
theorem Tree.oks_mem : ∀ {l : List Tree}, Tree.oks l → ∀ t ∈ l, t.ok
  | [], _, t, h => by cases h
  | x :: l, h, t, ht => by
    simp only [Tree.oks] at h
    rcases List.mem_cons.1 ht with rfl | h1
    · exact h.1
    · exact Tree.oks_mem h.2 t h1
theorem Tree.ok_none : Tree.none.ok := by simp [Tree.none, Tree.ok, Tree.oks]
theorem Tree.ok.at {t : Tree} (h : t.ok) (i : Nat) : (att t i).ok := by
  cases t with
  | mk n s nul l u =>
    simp only [Tree.ok] at h
    unfold att
    by_cases hi : i < l.length
    · have : (Tree.mk n s nul l u).l.getD i Tree.none = l[i] := by simp [Tree.l, hi]
      rw [this]; exact Tree.oks_mem h.2.2 _ (List.getElem_mem _)
    · have : (Tree.mk n s nul l u).l.getD i Tree.none = Tree.none := by simp [Tree.l, List.getD, List.getElem?_eq_none (by omega : l.length ≤ i)]
      rw [this]; exact Tree.ok_none
theorem Tree.ok.s {t : Tree} (h : t.ok) : t.s.length ≤ 9223372036854775807 := by cases t; simp only [Tree.ok] at h; exact h.1
theorem Tree.ok.u {t : Tree} (h : t.ok) : ∀ kv ∈ t.u, kv.1 < 4294967296 := by cases t; simp only [Tree.ok] at h; exact h.2.1
theorem Tree.ok.l {t : Tree} (h : t.ok) : ∀ x ∈ t.l, x.ok := by cases t; simp only [Tree.ok] at h; exact Tree.oks_mem h.2.2
mutual
/-- Lists that are not long. -/
def Tree.small : Tree → Prop
  | .mk _ _ _ l u => (l.length ≤ 1000000000 ∧ u.length ≤ 1000000000) ∧ Tree.smalls l
def Tree.smalls : List Tree → Prop
  | [] => True
  | t :: l => t.small ∧ Tree.smalls l
end
theorem Tree.smalls_mem : ∀ {l : List Tree}, Tree.smalls l → ∀ t ∈ l, t.small
  | [], _, t, h => by cases h
  | x :: l, h, t, ht => by
    simp only [Tree.smalls] at h
    rcases List.mem_cons.1 ht with rfl | h1
    · exact h.1
    · exact Tree.smalls_mem h.2 t h1
theorem Tree.small.lens {t : Tree} (h : t.small) : t.l.length ≤ 1000000000 ∧ t.u.length ≤ 1000000000 := by cases t; simp only [Tree.small] at h; exact h.1
theorem Tree.small.l {t : Tree} (h : t.small) : ∀ x ∈ t.l, x.small := by cases t; simp only [Tree.small] at h; exact Tree.smalls_mem h.2
theorem Fld.oksb_mem : ∀ {l : List Fld}, Fld.oksb l = true → ∀ f ∈ l, f.okb = true
  | [], _, t, h => by cases h
  | x :: l, h, t, ht => by
    simp only [Fld.oksb, Bool.and_eq_true] at h
    rcases List.mem_cons.1 ht with rfl | h1
    · exact h.1
    · exact Fld.oksb_mem h.2 t h1
theorem Fld.okb_tag {f : Fld} (h : f.okb = true) : f.tag < 2147483647 := by
  cases f; simp only [Fld.okb, Bool.and_eq_true, decide_eq_true_eq] at h; exact h.1.1.1
theorem Fld.okb_sub {f : Fld} (h : f.okb = true) : Fld.oksb f.sub = true ∧ f.sub.length ≤ 1000 := by
  cases f; simp only [Fld.okb, Bool.and_eq_true, decide_eq_true_eq] at h; exact ⟨h.2, Nat.le_of_ble_eq_true h.1.2⟩
/-- Fields that the walks speak of. -/
def Yb5 (fs : List Fld) : Bool := Fld.oksb fs && Nat.ble fs.length 1000
theorem Yb5.sub {f : Fld} (h : f.okb = true) : Yb5 f.sub = true := by
  have := Fld.okb_sub h
  simp only [Yb5, Bool.and_eq_true]
  exact ⟨this.1, Nat.ble_eq_true_of_le this.2⟩
theorem Yb5.mem {fs : List Fld} (h : Yb5 fs = true) : ∀ f ∈ fs, f.okb = true := by
  simp only [Yb5, Bool.and_eq_true] at h; exact Fld.oksb_mem h.1
theorem Yb5.len {fs : List Fld} (h : Yb5 fs = true) : fs.length ≤ 1000 := by
  simp only [Yb5, Bool.and_eq_true] at h; exact Nat.le_of_ble_eq_true h.2
theorem Yb5.tag {fs : List Fld} (h : Yb5 fs = true) : ∀ f ∈ fs, f.tag < 2147483647 := fun f hf => Fld.okb_tag (Yb5.mem h f hf)
end Go.Proofs.YtgjplodgdgaakaaGreatDoor

/- The fitted tree can be written. No program in sight. -/
namespace Go.Proofs.YtgjplodgdgaakaaGreatDoor
open Go Go.RowKit

theorem fitU_fit {fs : List Fld} (hk : YI fs = 0) {t t' : Tree} (ho : ∀ kv ∈ t.u, kv.1 < 4294967296) (h : t'.u = Xw fs t.u) : FitU fs t' := by
  have sub : ∀ kv ∈ YZ fs t.u, ∃ x ∈ t.u, x.1 = kv.1 := by
    unfold YZ
    have put : ∀ (k : Nat) (v : List UInt8) (u : List (Nat × List UInt8)), ∀ kv ∈ YT k v u, kv.1 = k ∨ kv ∈ u := by
      intro k v u
      induction u with
      | nil => intro kv h; simp [YT] at h; subst h; exact .inl rfl
      | cons x u ih =>
        intro kv h
        simp only [YT] at h
        split at h
        · rcases List.mem_cons.1 h with rfl | h
          · exact .inr (by simp)
          · rcases ih kv h with h | h
            · exact .inl h
            · exact .inr (by simp [h])
        · split at h
          · exact .inr h
          · rcases List.mem_cons.1 h with rfl | h
            · exact .inl rfl
            · exact .inr h
    have : ∀ (l out : List (Nat × List UInt8)), ∀ kv ∈ l.foldl (fun out kv => if kv.1 < YI fs then out else YT kv.1 kv.2 out) out, (∃ x ∈ l, x.1 = kv.1) ∨ kv ∈ out := by
      intro l
      induction l with
      | nil => intro out kv h; exact .inr h
      | cons x l ih =>
        intro out kv h
        simp only [List.foldl_cons] at h
        rcases ih _ kv h with ⟨y, hy, e⟩ | h
        · exact .inl ⟨y, by simp [hy], e⟩
        · split at h
          · exact .inr h
          · rcases put _ _ _ kv h with h | h
            · exact .inl ⟨x, by simp, h.symm⟩
            · exact .inr h
    intro kv hkv
    rcases this _ _ kv hkv with ⟨x, hx, e⟩ | h
    · exact ⟨x, List.mem_of_mem_take hx, e⟩
    · cases h
  refine ⟨by rw [h, Yi9 hk], ?_, by rw [h]; simp [Xw, Ym6]⟩
  intro kv hkv
  rw [h] at hkv
  simp only [Xw, List.mem_map] at hkv
  obtain ⟨x, hx, rfl⟩ := hkv
  obtain ⟨y, hy, e⟩ := sub x hx
  have := ho y hy
  exact ⟨by show x.1 < _; omega, whole_len _⟩
theorem fitV_fit (kind : Int) (null : Bool) (p : Tree → Tree) (t : Tree) (h10 : kind ≠ 10) : FitV kind (VC kind null p t) := by
  intro h
  unfold VC
  rw [if_pos h]
  exact whole_len _
mutual
theorem fitF_ok (ver : Int) : ∀ (f : Fld), f.tag < 0 → tabF ver f = true → ∀ x : Tree, x.ok → FitF ver f (fitF ver f x)
  | .mk kind fr upto nul tag df of sub, htag, htab, x, hx => by
    have htag' : ¬ (0 ≤ tag) := by have : tag < 0 := htag; omega
    simp only [tabF, Bool.and_eq_true] at htab
    obtain ⟨h8, htab⟩ := htab
    have h8' : kind = 8 → 0 ≤ nul → nul ≤ ver := by
      intro e1 e2
      simp [e1, e2] at h8
      exact h8
    have hnn : ∀ b : Bool, b = (x.nul && decide (0 ≤ nul) && decide (nul ≤ ver)) → b = true → nul ≤ ver := by
      intro b e1 e2
      rw [e1] at e2
      simp only [Bool.and_eq_true, decide_eq_true_eq] at e2
      exact e2.2
    rw [fitF_eq]
    rw [fld_null]
    simp only [Fld.kind, Fld.tag, Fld.of, Fld.sub, FitF]
    by_cases h11 : kind = 11
    · simp only [h11, if_true] at htab ⊢
      simp only [htag', decide_false, Bool.false_and, Bool.or_false, mk_nul, mk_l]
      refine ⟨fun _ e => hnn _ rfl e, fun e => by omega, by simp [Xq]; omega, fun h10 => ?_, fun h10 => ?_⟩
      · rw [if_pos h10] at htab
        intro y hy
        obtain ⟨z, hz, rfl⟩ := List.mem_map.1 hy
        have hzo := hx.l z (List.mem_of_mem_take hz)
        subst h10
        simp only [VC]
        exact ⟨Yc6 ver sub htab z hzo false, fitU_fit (Ja (JR htab)) hzo.u (by show ((Yl2 ver sub z).withNull false).u = _; rw [Jb]; rfl)⟩
      · rw [if_neg h10] at htab
        simp at htab
        refine ⟨htab, fun y hy => ?_⟩
        obtain ⟨z, hz, rfl⟩ := List.mem_map.1 hy
        exact fitV_fit of false _ z h10
    · simp only [h11, if_false] at htab ⊢
      by_cases h10 : kind = 10
      · simp only [h10, if_true] at htab ⊢
        refine ⟨fun _ e => ?_, fun e => by omega, ?_, ?_⟩
        · rw [Ji 10 _ _ _ (.inr (.inr rfl))] at e
          exact hnn _ rfl e
        · simp only [VC]
          exact Yc6 ver sub htab x hx _
        · exact fitU_fit (Ja (JR htab)) hx.u (by subst h10; show ((Yl2 ver sub x).withNull _).u = _; rw [Jb]; rfl)
      · simp only [h10, if_false]
        refine ⟨fun _ e => ?_, h8', fitV_fit kind _ _ x h10⟩
        by_cases h89 : kind = 8 ∨ kind = 9
        · rw [Ji kind _ _ _ (by rcases h89 with h | h; exact .inl h; exact .inr (.inl h))] at e
          exact hnn _ rfl e
        · unfold VC at e
          rw [if_neg h89, if_neg h10] at e
          cases e
theorem Yc6 (ver : Int) : ∀ (fs : List Fld), JL ver fs = true → ∀ (t : Tree), t.ok → ∀ b, Jm ver fs 0 ((Yl2 ver fs t).withNull b)
  | fs, h, t, ht, b => fitFs_ok ver fs h 0 _ (fun j hj => ⟨att t j, ht.at j, by rw [Yd1, Nat.zero_add, att_fitP ver fs t j hj]⟩)
theorem fitFs_ok (ver : Int) : ∀ (fs : List Fld), JL ver fs = true → ∀ (i : Nat) (t' : Tree), (∀ j (hj : j < fs.length), ∃ x : Tree, x.ok ∧ att t' (i + j) = fitF ver fs[j] x) → Jm ver fs i t'
  | [], _, _, _, _ => by simp [Jm]
  | f :: fs, h, i, t', hall => by
    simp only [JL, Bool.and_eq_true, Bool.or_eq_true, Bool.not_eq_true', decide_eq_true_eq] at h
    simp only [Jm]
    refine ⟨h.1.1, fun hh => ?_, fitFs_ok ver fs h.2 (i + 1) t' (fun j hj => ?_)⟩
    · obtain ⟨x, hx, e⟩ := hall 0 (by simp)
      simp only [Nat.add_zero, List.getElem_cons_zero] at e
      rw [e]
      refine fitF_ok ver f h.1.1 ?_ x hx
      rcases h.1.2 with h1 | h1
      · rw [hh] at h1; cases h1
      · exact h1
    · obtain ⟨x, hx, e⟩ := hall (j + 1) (by simpa using hj)
      exact ⟨x, hx, by rw [show i + 1 + j = i + (j + 1) by omega, e]; simp⟩
end
/-- The fitted tree can be written; it is written as the tree is. -/
theorem fitt_ok {ver : Int} {fs : List Fld} (h : JL ver fs = true) {t : Tree} (ht : t.ok) (flex : Bool) : FitT ver fs ((Yl2 ver fs t).withNull false) ∧ YO ver flex fs ((Yl2 ver fs t).withNull false) = YO ver flex fs t :=
  ⟨⟨Yc6 ver fs h t ht false, fitU_fit (Ja (JR h)) ht.u (by rw [Jb]; rfl)⟩, Yj7 ver flex fs h t false⟩
end Go.Proofs.YtgjplodgdgaakaaGreatDoor

/- How long what is written is at the most: so many octets for each value and letter of the tree. No Go in sight. -/
namespace Go.Proofs.YtgjplodgdgaakaaGreatDoor

def Vk (u : List (Nat × List UInt8)) : Nat := (u.map fun kv => kv.2.length + 1).sum
mutual
/-- All values and letters of a tree. -/
def Tree.wt : Tree → Nat
  | .mk _ s _ l u => 1 + s.length + Vk u + Tree.wts l
def Tree.wts : List Tree → Nat
  | [] => 0
  | t :: l => t.wt + Tree.wts l
end
mutual
def Fld.cost : Fld → Nat
  | .mk _ _ _ _ _ _ _ sub => 60 + ((1 + YI sub) * Fld.costs sub + 60)
def Fld.costs : List Fld → Nat
  | [] => 0
  | f :: l => f.cost + 30 + Fld.costs l
end
/-- What a part costs. -/
def partCost (fs : List Fld) : Nat := (1 + YI fs) * Fld.costs fs + 60
theorem Tree.wt_pos (t : Tree) : 1 ≤ t.wt := by cases t; simp only [Tree.wt]; omega
theorem wts_mem : ∀ {l : List Tree} {t : Tree}, t ∈ l → t.wt ≤ Tree.wts l
  | x :: l, t, h => by
    simp only [Tree.wts]
    rcases List.mem_cons.1 h with rfl | h1
    · omega
    · have := wts_mem h1; omega
theorem wts_take : ∀ (l : List Tree) (n : Nat), Tree.wts (l.take n) ≤ Tree.wts l
  | [], n => by simp
  | x :: l, 0 => by simp [Tree.wts]
  | x :: l, n + 1 => by simp only [List.take_succ_cons, Tree.wts]; have := wts_take l n; omega
theorem att_wt (t : Tree) (i : Nat) : (att t i).wt ≤ t.wt := by
  cases t with
  | mk n s nul l u =>
    unfold att
    by_cases hi : i < l.length
    · have e : (Tree.mk n s nul l u).l.getD i Tree.none = l[i] := by simp [Tree.l, hi]
      rw [e]
      have := wts_mem (List.getElem_mem hi)
      simp only [Tree.wt]; omega
    · have e : (Tree.mk n s nul l u).l.getD i Tree.none = Tree.none := by simp [Tree.l, List.getD, List.getElem?_eq_none (by omega : l.length ≤ i)]
      rw [e]
      simp only [Tree.none, Tree.wt, Vk, Tree.wts]; simp; omega
theorem s_wt (t : Tree) : t.s.length + 1 ≤ t.wt := by cases t; simp only [Tree.wt, Tree.s]; omega
theorem l_wt (t : Tree) : Tree.wts t.l + 1 ≤ t.wt := by cases t; simp only [Tree.wt, Tree.l]; omega
theorem u_wt (t : Tree) : Vk t.u + 1 ≤ t.wt := by cases t; simp only [Tree.wt, Tree.u]; omega

theorem uvar_le6 (n : Nat) (h : n < 34359738368) : (uvar n).length ≤ 6 := by
  rw [uvar]; split
  · simp
  · rw [uvar]; split
    · simp
    · rw [uvar]; split
      · simp
      · rw [uvar]; split
        · simp
        · rw [uvar]; split
          · simp
          · omega
theorem be_len : ∀ (k : Nat) (n : Int), (be k n).length = k
  | 0, _ => rfl
  | k + 1, n => by simp only [be, List.length_cons, be_len k n]
theorem Yc2 (flex null : Bool) (n size : Nat) (hn : n ≤ 1000000) (hs : size ≤ 8) : (YF flex null n size).length ≤ 8 := by
  unfold YF
  split
  · split
    · simp
    · exact Nat.le_trans (uvar_le6 _ (by omega)) (by omega)
  · split <;> rw [be_len] <;> exact hs
theorem whole_le (s : List UInt8) : (whole s).length ≤ s.length ∧ (whole s).length ≤ 32767 := by
  unfold whole XQ; rw [List.length_take]; omega
theorem width8 (k : Int) : width k ≤ 8 := by
  unfold width
  split
  · omega
  · split
    · omega
    · split <;> omega
theorem wVal_le (kind : Int) (flex null : Bool) (p : Tree → List UInt8) (t : Tree) (c : Nat) (hp : (p t).length ≤ c * t.wt) : (Xu kind flex null p t).length ≤ (c + 24) * t.wt := by
  have h1 := t.wt_pos
  have hs := s_wt t
  have hw := whole_le t.s
  have hif : (if null then ([] : List UInt8) else whole t.s).length ≤ t.s.length ∧ (if null then ([] : List UInt8) else whole t.s).length ≤ 32767 := by
    cases null
    · exact hw
    · simp
  have hmul : (c + 24) * t.wt = c * t.wt + 24 * t.wt := by rw [Nat.add_mul]
  unfold Xu
  split
  · simp; omega
  · split
    · simp only [XN, List.length_take]; omega
    · split
      · have := Yc2 flex null (if null then ([] : List UInt8) else whole t.s).length 2 (by omega) (by omega)
        rw [List.length_append]; omega
      · split
        · have := Yc2 flex null (if null then ([] : List UInt8) else whole t.s).length 4 (by omega) (by omega)
          rw [List.length_append]; omega
        · split
          · omega
          · rw [be_len]
            have := width8 kind
            omega

/-- The tags' octets. -/
def JD (l : List (Nat × List UInt8)) : Nat := (l.map fun kv => (Jq kv.1 kv.2).length).sum
theorem tagsB_append (a b : List (Nat × List UInt8)) : JD (a ++ b) = JD a + JD b := by simp [JD]
theorem flat_tagsB (l : List (Nat × List UInt8)) : (l.flatMap fun kv => Jq kv.1 kv.2).length = JD l := by
  induction l with
  | nil => rfl
  | cons a l ih => simp [JD]
theorem tagsW_append (a b : List (Nat × List UInt8)) : Vk (a ++ b) = Vk a + Vk b := by simp [Vk]
theorem putTag_W (k : Nat) (v : List UInt8) (l : List (Nat × List UInt8)) : Vk (YT k v l) ≤ Vk l + v.length + 1 := by
  induction l with
  | nil => simp [YT, Vk]
  | cons a l ih =>
    simp only [YT]
    split
    · simp only [Vk, List.map_cons, List.sum_cons] at *; omega
    · split
      · omega
      · simp only [Vk, List.map_cons, List.sum_cons]; omega
theorem unknown_W (fs : List Fld) (u : List (Nat × List UInt8)) : Vk (YZ fs u) ≤ Vk u := by
  have gen : ∀ (l out : List (Nat × List UInt8)), Vk (l.foldl (fun out kv => if kv.1 < YI fs then out else YT kv.1 kv.2 out) out) ≤ Vk out + Vk l := by
    intro l
    induction l with
    | nil => intro out; simp [Vk]
    | cons a l ih =>
      intro out
      have h1 := ih (if a.1 < YI fs then out else YT a.1 a.2 out)
      have h2 : Vk (if a.1 < YI fs then out else YT a.1 a.2 out) ≤ Vk out + a.2.length + 1 := by
        split
        · omega
        · exact putTag_W _ _ _
      simp only [List.foldl_cons]
      simp only [Vk, List.map_cons, List.sum_cons] at *
      omega
  have ht : Vk (u.take XQ) ≤ Vk u := by
    have : Vk u = Vk (u.take XQ) + Vk (u.drop XQ) := by rw [← tagsW_append, List.take_append_drop]
    omega
  have h0 : Vk ([] : List (Nat × List UInt8)) = 0 := rfl
  have := gen (u.take XQ) []
  unfold YZ
  omega
theorem putTag_key (k : Nat) (v : List UInt8) (l : List (Nat × List UInt8)) : ∀ x ∈ YT k v l, x = (k, v) ∨ x ∈ l := by
  induction l with
  | nil => intro x hx; simp [YT] at hx; exact .inl hx
  | cons a l ih =>
    intro x hx
    simp only [YT] at hx
    split at hx
    · rcases List.mem_cons.1 hx with rfl | h
      · exact .inr (by simp)
      · rcases ih x h with h | h
        · exact .inl h
        · exact .inr (by simp [h])
    · split at hx
      · exact .inr hx
      · rcases List.mem_cons.1 hx with rfl | h
        · exact .inl rfl
        · exact .inr h
theorem unknown_in (fs : List Fld) (u : List (Nat × List UInt8)) : ∀ x ∈ YZ fs u, x ∈ u := by
  have gen : ∀ (l out : List (Nat × List UInt8)), ∀ x ∈ l.foldl (fun out kv => if kv.1 < YI fs then out else YT kv.1 kv.2 out) out, x ∈ out ∨ x ∈ l := by
    intro l
    induction l with
    | nil => intro out x hx; exact .inl hx
    | cons a l ih =>
      intro out x hx
      rcases ih _ x hx with h | h
      · simp only [] at h
        split at h
        · exact .inl h
        · rcases putTag_key _ _ _ x h with rfl | h
          · exact .inr (by simp)
          · exact .inl h
      · exact .inr (by simp [h])
  intro x hx
  rcases gen (u.take XQ) [] x hx with h | h
  · cases h
  · exact List.mem_of_mem_take h
theorem others_le (fs : List Fld) (t : Tree) (hok : t.ok) : JD (Xw fs t.u) ≤ 14 * t.wt := by
  have h1 := unknown_W fs t.u
  have h2 := u_wt t
  have h3 : JD (Xw fs t.u) ≤ 13 * Vk (YZ fs t.u) := by
    have gen : ∀ l : List (Nat × List UInt8), (∀ kv ∈ l, kv.1 < 4294967296) → JD (l.map fun kv => (kv.1, whole kv.2)) ≤ 13 * Vk l := by
      intro l
      induction l with
      | nil => intro _; simp [JD]
      | cons a l ih =>
        intro h
        have := ih (fun x hx => h x (by simp [hx]))
        have ha := uvar_le6 a.1 (by have := h a (by simp); omega)
        have hb := uvar_le6 (whole a.2).length (by have := (whole_le a.2).2; omega)
        have hc := (whole_le a.2).1
        simp only [JD, Vk, List.map_cons, List.sum_cons, Jq, List.length_append] at *
        omega
    exact gen _ (fun kv hkv => hok.u kv (unknown_in fs t.u kv hkv))
  omega

theorem things_le (g : Tree → List UInt8) (c : Nat) : ∀ (l : List Tree), (∀ x ∈ l, (g x).length ≤ c * x.wt) → (l.flatMap g).length ≤ c * Tree.wts l
  | [], _ => by simp
  | x :: l, h => by
    have h1 := h x (by simp)
    have h2 := things_le g c l (fun y hy => h y (by simp [hy]))
    simp only [List.flatMap_cons, List.length_append, Tree.wts, Nat.mul_add]; omega
end Go.Proofs.YtgjplodgdgaakaaGreatDoor
