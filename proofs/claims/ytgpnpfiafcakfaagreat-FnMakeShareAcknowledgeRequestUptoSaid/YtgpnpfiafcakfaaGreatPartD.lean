/- A part of the proof of FnMakeShareAcknowledgeRequestUptoSaid: what its texts prove stands at the head of each. Conditions: those that each theorem names. -/
import Derived.Test.YtgpnpfiafcakfaaGreatPartC
import Derived.Test.YtgpnpfiafcakfaaGreatPartA
import Derived.Laws.CopyRow
import Derived.Laws.OwnMore
set_option linter.all false
namespace Go.Proofs.YtgpnpfiafcakfaaGreat
open Go Go.RowKit
def tabOk (s : ByteArray) (n : Nat) (f : Nat → Nat → Bool) : Bool := (List.range n).all fun i => match s.data[i]? with | some c => f i c.toNat | none => false
section
variable {P : Program} {ops : Array Oper} {Q : Exit → Act → World → Prop} {N : Nat} {rest : List Oper} {L : Sl} {w : World} {d : Nat} {ty : TypeId} {pos : String} {aft : Array Edge}
theorem wl_tab {x y : Operand} {t : TypeId} {s : ByteArray} {kk : IntKind} {m : Int} (i n : Nat) (f : Nat → Nat → Bool) (hx : ev L x = some (.string s)) (hy : ev L y = some (.int kk m)) (ht : (match P.underlying t with | some .string => true | _ => false) = true) (hd : Nat.blt d N = true)
    (hm : m = (i : Int)) (hi : i < n) (hs : tabOk s n f = true) (h : ∀ c : Nat, f i c = true → WL rest P ops Q N ((d, .int .u8 (c : Int)) :: L) w) :
    WL (⟨some d, .index t x y, ty, pos, aft, none⟩ :: rest) P ops Q N L w := by
  unfold tabOk at hs
  have h1 := List.all_eq_true.1 hs i (List.mem_range.2 hi)
  cases hc : s.data[i]? with
  | none => rw [hc] at h1; cases h1
  | some c => rw [hc] at h1; exact wl_index hx hy ht hd hm hc (h c.toNat h1)
end
def bitsAre (i c : Nat) : Bool := decide (i < 2 ^ c) && decide (c = 0 ∨ 2 ^ (c - 1) ≤ i) && decide (c ≤ 8)
def groupsAre (i c : Nat) : Bool := if i ≤ 7 then c == 1 else if i ≤ 14 then c == 2 else if i ≤ 21 then c == 3 else if i ≤ 28 then c == 4 else c == 5
theorem bits_up (x c s : Nat) (u : Nat) (h : bitsAre x c = true) (hx : x = u / 2 ^ s) (hp : 0 < x) : u < 2 ^ (c + s) ∧ 2 ^ (c + s - 1) ≤ u ∧ 0 < c ∧ c ≤ 8 := by
  simp only [bitsAre, Bool.and_eq_true, decide_eq_true_eq] at h
  obtain ⟨⟨h1, h2⟩, h3⟩ := h
  have hc : 0 < c := by rcases Nat.eq_zero_or_pos c with rfl | h; · simp at h1; omega
                        · exact h
  have hs := Nat.two_pow_pos s
  refine ⟨?_, ?_, hc, h3⟩
  · rw [Nat.pow_add]
    exact (Nat.div_lt_iff_lt_mul hs).1 (hx ▸ h1)
  · have h4 : 2 ^ (c - 1) ≤ u / 2 ^ s := by rw [← hx]; omega
    have := (Nat.le_div_iff_mul_le hs).1 h4
    rw [← Nat.pow_add] at this
    rw [show c + s - 1 = c - 1 + s from by omega]; exact this
section
set_option maxRecDepth 100000
def BitsOf (u r : Nat) : Prop := u < 2 ^ r ∧ (r = 0 ∨ 2 ^ (r - 1) ≤ u) ∧ r ≤ 32
theorem len32 (u : Nat) (hu : u < 4294967296) (w : World) : Calls Tryz.prog 68 #[.int .u32 (u : Int)] w fun e w' => (∃ r : Nat, e = .returned (.int .i64 (r : Int)) ∧ BitsOf u r) ∧ w' = w := by
  refine enter (vs := [.int .u32 (u : Int)]) Tryz.func68 rfl Tryz.ntmps68 rfl ?_
  refine wc_seq (wc_region (wl_assign rfl rfl (wl_nil (qk_thn ?_))))
  refine wc_seq (wc_seq (wc_region ?_))
  repeat ((with_reducible apply ws);exact rfl;exact rfl)
  refine wl_nil (qk_thn ?_)
  by_cases h16 : 65536 ≤ u
  · refine wc_yes rfl (by simp; omega) ?_
    refine wc_seq (wc_region ?_)
    refine wl_move rfl rfl (wl_shr rfl rfl rfl (shr_nat u 16 32 (by omega)) (wl_assign rfl rfl (wl_nil (qk_thn (wc_region (wl_assign rfl rfl (wl_nil (qk_thn ?_))))))))
    refine wc_seq (wc_seq (wc_region ?_))
    repeat ((with_reducible apply ws);exact rfl;exact rfl)
    refine wl_nil (qk_thn ?_)
    by_cases h24 : 256 ≤ u / 2 ^ 16
    · refine wc_yes rfl (by simp; omega) ?_
      refine wc_seq (wc_region ?_)
      refine wl_move rfl rfl (wl_shr rfl rfl rfl (shr_nat (u / 2 ^ 16) 8 32 (by omega)) (wl_assign rfl rfl (wl_nil (qk_thn (wc_region (wl_move rfl rfl (wl_add rfl rfl rfl (r := 24) (by decide) (wl_assign rfl rfl (wl_nil (qk_thn ?_))))))))))
      refine wc_seq (wc_region ?_)
      refine wl_move rfl rfl (wl_move rfl rfl (wl_conv .u8 rfl (by kernel_rfl) (by kernel_rfl) rfl (r := ((u / 2 ^ 16 / 2 ^ 8 : Nat) : Int)) (by rw [IntKind.wrap_u8]; omega) ?_))
      refine wl_tab (u / 2 ^ 16 / 2 ^ 8) 256 bitsAre rfl rfl (by kernel_rfl) rfl rfl (by omega) (by kernel_rfl) (fun c hc => ?_)
      obtain ⟨b1, b2, b3, b4⟩ := bits_up _ c 24 u hc (by rw [Nat.div_div_eq_div_mul]) (by omega)
      refine wl_conv .i64 rfl (by kernel_rfl) (by kernel_rfl) rfl (r := (c : Int)) (by rw [IntKind.wrap_i64]; omega) ?_
      refine wl_add rfl rfl rfl (r := ((c + 24 : Nat) : Int)) (by rw [IntKind.wrap_i64]; omega) (wl_assign rfl rfl (wl_nil (qk_thn ?_)))
      exact wc_ret (qk_ret1 rfl rfl ⟨⟨_, rfl, b1, .inr b2, by omega⟩, rfl⟩)
    · refine wc_no rfl (by simp; omega) (wc_skip (qk_thn ?_))
      refine wc_seq (wc_region ?_)
      refine wl_move rfl rfl (wl_move rfl rfl (wl_conv .u8 rfl (by kernel_rfl) (by kernel_rfl) rfl (r := ((u / 2 ^ 16 : Nat) : Int)) (by rw [IntKind.wrap_u8]; omega) ?_))
      refine wl_tab (u / 2 ^ 16) 256 bitsAre rfl rfl (by kernel_rfl) rfl rfl (by omega) (by kernel_rfl) (fun c hc => ?_)
      obtain ⟨b1, b2, b3, b4⟩ := bits_up _ c 16 u hc rfl (by omega)
      refine wl_conv .i64 rfl (by kernel_rfl) (by kernel_rfl) rfl (r := (c : Int)) (by rw [IntKind.wrap_i64]; omega) ?_
      refine wl_add rfl rfl rfl (r := ((c + 16 : Nat) : Int)) (by rw [IntKind.wrap_i64]; omega) (wl_assign rfl rfl (wl_nil (qk_thn ?_)))
      exact wc_ret (qk_ret1 rfl rfl ⟨⟨_, rfl, b1, .inr b2, by omega⟩, rfl⟩)
  · refine wc_no rfl (by simp; omega) (wc_skip (qk_thn ?_))
    refine wc_seq (wc_seq (wc_region ?_))
    repeat ((with_reducible apply ws);exact rfl;exact rfl)
    refine wl_nil (qk_thn ?_)
    by_cases h8 : 256 ≤ u
    · refine wc_yes rfl (by simp; omega) ?_
      refine wc_seq (wc_region ?_)
      refine wl_move rfl rfl (wl_shr rfl rfl rfl (shr_nat u 8 32 (by omega)) (wl_assign rfl rfl (wl_nil (qk_thn (wc_region (wl_move rfl rfl (wl_add rfl rfl rfl (r := 8) (by decide) (wl_assign rfl rfl (wl_nil (qk_thn ?_))))))))))
      refine wc_seq (wc_region ?_)
      refine wl_move rfl rfl (wl_move rfl rfl (wl_conv .u8 rfl (by kernel_rfl) (by kernel_rfl) rfl (r := ((u / 2 ^ 8 : Nat) : Int)) (by rw [IntKind.wrap_u8]; omega) ?_))
      refine wl_tab (u / 2 ^ 8) 256 bitsAre rfl rfl (by kernel_rfl) rfl rfl (by omega) (by kernel_rfl) (fun c hc => ?_)
      obtain ⟨b1, b2, b3, b4⟩ := bits_up _ c 8 u hc rfl (by omega)
      refine wl_conv .i64 rfl (by kernel_rfl) (by kernel_rfl) rfl (r := (c : Int)) (by rw [IntKind.wrap_i64]; omega) ?_
      refine wl_add rfl rfl rfl (r := ((c + 8 : Nat) : Int)) (by rw [IntKind.wrap_i64]; omega) (wl_assign rfl rfl (wl_nil (qk_thn ?_)))
      exact wc_ret (qk_ret1 rfl rfl ⟨⟨_, rfl, b1, .inr b2, by omega⟩, rfl⟩)
    · refine wc_no rfl (by simp; omega) (wc_skip (qk_thn ?_))
      refine wc_seq (wc_region ?_)
      refine wl_move rfl rfl (wl_move rfl rfl (wl_conv .u8 rfl (by kernel_rfl) (by kernel_rfl) rfl (r := (u : Int)) (by rw [IntKind.wrap_u8]; omega) ?_))
      refine wl_tab u 256 bitsAre rfl rfl (by kernel_rfl) rfl rfl (by omega) (by kernel_rfl) (fun c hc => ?_)
      simp only [bitsAre, Bool.and_eq_true, decide_eq_true_eq] at hc
      obtain ⟨⟨b1, b2⟩, b3⟩ := hc
      refine wl_conv .i64 rfl (by kernel_rfl) (by kernel_rfl) rfl (r := (c : Int)) (by rw [IntKind.wrap_i64]; omega) ?_
      refine wl_add rfl rfl rfl (r := (c : Int)) (by rw [IntKind.wrap_i64]; omega) (wl_assign rfl rfl (wl_nil (qk_thn ?_)))
      exact wc_ret (qk_ret1 rfl rfl ⟨⟨_, rfl, b1, b2, by omega⟩, rfl⟩)
theorem uvarintLen (u : Nat) (hu : u < 4294967296) (w : World) : Calls Tryz.prog 59 #[.int .u32 (u : Int)] w fun e w' => (∃ r c : Nat, e = .returned (.int .i64 (c : Int)) ∧ BitsOf u r ∧ groupsAre r c = true) ∧ w' = w := by
  refine enter (vs := [.int .u32 (u : Int)]) Tryz.func59 rfl Tryz.ntmps59 rfl ?_
  refine wc_seq (wc_region (wl_assign rfl rfl (wl_nil (qk_thn ?_))))
  refine wc_seq (wc_region ?_)
  refine wl_move rfl rfl (wl_call rfl (by kernel_rfl) rfl ((len32 u hu w).mono ?_))
  rintro e w' ⟨⟨r, rfl, hr⟩, rfl⟩
  have hr32 := hr.2.2
  refine ⟨_, rfl, ?_⟩
  refine wl_conv .u8 rfl (by kernel_rfl) (by kernel_rfl) rfl (r := (r : Int)) (by rw [IntKind.wrap_u8]; omega) ?_
  refine wl_tab r 33 groupsAre rfl rfl (by kernel_rfl) rfl rfl (by omega) (by kernel_rfl) (fun c hc => ?_)
  have hc5 : c ≤ 5 := by unfold groupsAre at hc; split at hc <;> (try split at hc) <;> (try split at hc) <;> (try split at hc) <;> simp at hc <;> omega
  refine wl_conv .i64 rfl (by kernel_rfl) (by kernel_rfl) rfl (r := (c : Int)) (by rw [IntKind.wrap_i64]; omega) ?_
  refine wl_assign rfl rfl (wl_nil (qk_thn ?_))
  exact wc_ret (qk_ret1 rfl rfl ⟨⟨r, c, rfl, hr, hc⟩, rfl⟩)
end
end Go.Proofs.YtgpnpfiafcakfaaGreat

namespace Go.Proofs.YtgpnpfiafcakfaaGreat
open Go Go.RowKit
section
set_option maxRecDepth 100000
theorem ends (u r c : Nat) (h : BitsOf u r) (g : groupsAre r c = true) :
  (c = 1 ∧ u < 128) ∨ (c = 2 ∧ 128 ≤ u ∧ u < 16384) ∨ (c = 3 ∧ 16384 ≤ u ∧ u < 2097152) ∨ (c = 4 ∧ 2097152 ≤ u ∧ u < 268435456) ∨ (c = 5 ∧ 268435456 ≤ u ∧ u < 4294967296) := by
 obtain ⟨h1, h2, h3⟩ := h
 have up : ∀ a b : Nat, a ≤ b → 2 ^ a ≤ 2 ^ b := fun a b h => Nat.pow_le_pow_right (by decide) h
 unfold groupsAre at g
 split at g
 ·rename_i hr; simp at g; have := up r 7 hr; exact .inl ⟨g, by omega⟩
 ·split at g
  ·rename_i h0 hr; simp at g; have := up r 14 hr; have := up 7 (r - 1) (by omega); exact .inr (.inl ⟨g, by omega, by omega⟩)
  ·split at g
   ·rename_i h0 hr; simp at g; have := up r 21 hr; have := up 14 (r - 1) (by omega); exact .inr (.inr (.inl ⟨g, by omega, by omega⟩))
   ·split at g
    ·rename_i h0 hr; simp at g; have := up r 28 hr; have := up 21 (r - 1) (by omega); exact .inr (.inr (.inr (.inl ⟨g, by omega, by omega⟩)))
    ·rename_i h0; simp at g; have := up r 32 h3; have := up 28 (r - 1) (by omega); exact .inr (.inr (.inr (.inr ⟨g, by omega, by omega⟩)))
theorem uvar1_bytes (u : Nat) (h : u < 128) : [Value.int .u8 (IntKind.u8.wrap (u : Int))] = bv (uvar u) := by rw [uvar_lt h, cellByte]; rfl
theorem cons2 {a b : Value} {r s : List Value} (h : a = b) (k : r = s) : a :: r = b :: s := by rw [h, k]
theorem uvar2_bytes (u : Nat) (h1 : 128 ≤ u) (h2 : u < 16384) : [Value.int .u8 (IntKind.u8.wrap (bits .or .u32 (bits .and .u32 (u : Int) 127) 128)), .int .u8 (IntKind.u8.wrap ((u : Int).fdiv (2 ^ (min (7 : Int).toNat IntKind.u32.bits))))] = bv (uvar u) := by
 rw [uvar2 h1 h2]; exact cons2 (grp0 u (by omega)) (cons2 (grpLast u 7 (by omega)) rfl)
theorem uvar3_bytes (u : Nat) (h1 : 16384 ≤ u) (h2 : u < 2097152) : [Value.int .u8 (IntKind.u8.wrap (bits .or .u32 (bits .and .u32 (u : Int) 127) 128)), .int .u8 (IntKind.u8.wrap (bits .or .u32 (bits .and .u32 ((u : Int).fdiv (2 ^ (min (7 : Int).toNat IntKind.u32.bits))) 127) 128)),
  .int .u8 (IntKind.u8.wrap ((u : Int).fdiv (2 ^ (min (14 : Int).toNat IntKind.u32.bits))))] = bv (uvar u) := by
 rw [uvar3 h1 h2]; exact cons2 (grp0 u (by omega)) (cons2 (grp u 7 (by omega) (by omega)) (cons2 (grpLast u 14 (by omega)) rfl))
theorem uvar4_bytes (u : Nat) (h1 : 2097152 ≤ u) (h2 : u < 268435456) : [Value.int .u8 (IntKind.u8.wrap (bits .or .u32 (bits .and .u32 (u : Int) 127) 128)), .int .u8 (IntKind.u8.wrap (bits .or .u32 (bits .and .u32 ((u : Int).fdiv (2 ^ (min (7 : Int).toNat IntKind.u32.bits))) 127) 128)),
  .int .u8 (IntKind.u8.wrap (bits .or .u32 (bits .and .u32 ((u : Int).fdiv (2 ^ (min (14 : Int).toNat IntKind.u32.bits))) 127) 128)), .int .u8 (IntKind.u8.wrap ((u : Int).fdiv (2 ^ (min (21 : Int).toNat IntKind.u32.bits))))] = bv (uvar u) := by
 rw [uvar4 h1 h2]; exact cons2 (grp0 u (by omega)) (cons2 (grp u 7 (by omega) (by omega)) (cons2 (grp u 14 (by omega) (by omega)) (cons2 (grpLast u 21 (by omega)) rfl)))
theorem uvar5_bytes (u : Nat) (h1 : 268435456 ≤ u) (h2 : u < 4294967296) : [Value.int .u8 (IntKind.u8.wrap (bits .or .u32 (bits .and .u32 (u : Int) 127) 128)), .int .u8 (IntKind.u8.wrap (bits .or .u32 (bits .and .u32 ((u : Int).fdiv (2 ^ (min (7 : Int).toNat IntKind.u32.bits))) 127) 128)),
  .int .u8 (IntKind.u8.wrap (bits .or .u32 (bits .and .u32 ((u : Int).fdiv (2 ^ (min (14 : Int).toNat IntKind.u32.bits))) 127) 128)), .int .u8 (IntKind.u8.wrap (bits .or .u32 (bits .and .u32 ((u : Int).fdiv (2 ^ (min (21 : Int).toNat IntKind.u32.bits))) 127) 128)), .int .u8 (IntKind.u8.wrap ((u : Int).fdiv (2 ^ (min (28 : Int).toNat IntKind.u32.bits))))] = bv (uvar u) := by
 rw [uvar5 h1 h2]; exact cons2 (grp0 u (by omega)) (cons2 (grp u 7 (by omega) (by omega)) (cons2 (grp u 14 (by omega) (by omega)) (cons2 (grp u 21 (by omega) (by omega)) (cons2 (grpLast u 28 (by omega)) rfl))))
theorem uvar_len {u c : Nat} (h : (c = 1 ∧ u < 128) ∨ (c = 2 ∧ 128 ≤ u ∧ u < 16384) ∨ (c = 3 ∧ 16384 ≤ u ∧ u < 2097152) ∨ (c = 4 ∧ 2097152 ≤ u ∧ u < 268435456) ∨ (c = 5 ∧ 268435456 ≤ u ∧ u < 4294967296)) : (uvar u).length = c := by
 rcases h with ⟨rfl, h⟩ | ⟨rfl, h, h'⟩ | ⟨rfl, h, h'⟩ | ⟨rfl, h, h'⟩ | ⟨rfl, h, h'⟩
 ·rw [uvar_lt h]; rfl
 ·rw [uvar2 h h']; rfl
 ·rw [uvar3 h h']; rfl
 ·rw [uvar4 h h']; rfl
 ·rw [uvar5 h h']; rfl
theorem appendUvarint (u : Nat) (hu : u < 4294967296) : App 41 [.int .u32 (u : Int)] (uvar u) := by
 intro d w B xs _ hown hB hlim
 refine enter Tryz.func41 rfl Tryz.ntmps41 rfl ?_
 repeat first|(with_reducible first|apply wc_seq|apply wc_region|apply wl_nil|apply qk_thn)|((with_reducible apply ws);exact rfl;exact rfl)
 refine wl_call rfl (by kernel_rfl) rfl ((uvarintLen u hu w).mono ?_)
 rintro e w' ⟨⟨r, c, rfl, hr, hc⟩, rfl⟩
 have hend := ends u r c hr hc
 have hlen := uvar_len hend
 refine ⟨_, rfl, ?_⟩
 rcases hend with ⟨rfl, h⟩ | ⟨rfl, h, h'⟩ | ⟨rfl, h, h'⟩ | ⟨rfl, h, h'⟩ | ⟨rfl, h, h'⟩
 ·repeat first|(with_reducible first|apply wc_seq|apply wc_region|apply wl_nil|apply qk_thn|apply wc_block)|((with_reducible apply ws);exact rfl;exact rfl)
  refine wc_no rfl (by decide) ?_
  repeat first|(with_reducible first|apply wc_seq|apply wc_region|apply wl_nil|apply qk_thn)|((with_reducible apply ws);exact rfl;exact rfl)
  refine wc_no rfl (by decide) ?_
  repeat first|(with_reducible first|apply wc_seq|apply wc_region|apply wl_nil|apply qk_thn)|((with_reducible apply ws);exact rfl;exact rfl)
  refine wc_no rfl (by decide) ?_
  repeat first|(with_reducible first|apply wc_seq|apply wc_region|apply wl_nil|apply qk_thn)|((with_reducible apply ws);exact rfl;exact rfl)
  refine wc_no rfl (by decide) ?_
  repeat first|(with_reducible first|apply wc_seq|apply wc_region|apply wl_nil|apply qk_thn)|((with_reducible apply ws);exact rfl;exact rfl)
  refine wc_yes rfl (by decide) ?_
  repeat first|(with_reducible first|apply wc_seq|apply wc_region)|((with_reducible apply ws);exact rfl;exact rfl)|((with_reducible apply wl_conv .u8);exact rfl;exact ti_u32;exact ti_u8;exact rfl;exact rfl)
  refine wl_appLit (by kernel_rfl) rfl (uvar1_bytes u h) (by rw [hlen]; rfl) rfl rfl rfl rfl hown hB hlim (fun d' w' ho hg => ?_)
  repeat first|(with_reducible first|apply wl_nil|apply qk_thn|apply wc_ret|apply qk_thn_ret|apply qk_in_ret)|((with_reducible apply ws);exact rfl;exact rfl)
  exact qk_ret1 rfl rfl ⟨d', rfl, ho, hg⟩
 ·repeat first|(with_reducible first|apply wc_seq|apply wc_region|apply wl_nil|apply qk_thn|apply wc_block)|((with_reducible apply ws);exact rfl;exact rfl)
  refine wc_no rfl (by decide) ?_
  repeat first|(with_reducible first|apply wc_seq|apply wc_region|apply wl_nil|apply qk_thn)|((with_reducible apply ws);exact rfl;exact rfl)
  refine wc_no rfl (by decide) ?_
  repeat first|(with_reducible first|apply wc_seq|apply wc_region|apply wl_nil|apply qk_thn)|((with_reducible apply ws);exact rfl;exact rfl)
  refine wc_no rfl (by decide) ?_
  repeat first|(with_reducible first|apply wc_seq|apply wc_region|apply wl_nil|apply qk_thn)|((with_reducible apply ws);exact rfl;exact rfl)
  refine wc_yes rfl (by decide) ?_
  repeat first|(with_reducible first|apply wc_seq|apply wc_region)|((with_reducible apply ws);exact rfl;exact rfl)|((with_reducible first|apply wl_and|apply wl_or|apply wl_shr);exact rfl;exact rfl;exact rfl;exact rfl)|((with_reducible apply wl_conv .u8);exact rfl;exact ti_u32;exact ti_u8;exact rfl;exact rfl)
  refine wl_appLit (by kernel_rfl) rfl (uvar2_bytes u h h') (by rw [hlen]; rfl) rfl rfl rfl rfl hown hB hlim (fun d' w' ho hg => ?_)
  repeat first|(with_reducible first|apply wl_nil|apply qk_thn|apply wc_ret|apply qk_thn_ret|apply qk_in_ret)|((with_reducible apply ws);exact rfl;exact rfl)
  exact qk_ret1 rfl rfl ⟨d', rfl, ho, hg⟩
 ·repeat first|(with_reducible first|apply wc_seq|apply wc_region|apply wl_nil|apply qk_thn|apply wc_block)|((with_reducible apply ws);exact rfl;exact rfl)
  refine wc_no rfl (by decide) ?_
  repeat first|(with_reducible first|apply wc_seq|apply wc_region|apply wl_nil|apply qk_thn)|((with_reducible apply ws);exact rfl;exact rfl)
  refine wc_no rfl (by decide) ?_
  repeat first|(with_reducible first|apply wc_seq|apply wc_region|apply wl_nil|apply qk_thn)|((with_reducible apply ws);exact rfl;exact rfl)
  refine wc_yes rfl (by decide) ?_
  repeat first|(with_reducible first|apply wc_seq|apply wc_region)|((with_reducible apply ws);exact rfl;exact rfl)|((with_reducible first|apply wl_and|apply wl_or|apply wl_shr);exact rfl;exact rfl;exact rfl;exact rfl)|((with_reducible apply wl_conv .u8);exact rfl;exact ti_u32;exact ti_u8;exact rfl;exact rfl)
  refine wl_appLit (by kernel_rfl) rfl (uvar3_bytes u h h') (by rw [hlen]; rfl) rfl rfl rfl rfl hown hB hlim (fun d' w' ho hg => ?_)
  repeat first|(with_reducible first|apply wl_nil|apply qk_thn|apply wc_ret|apply qk_thn_ret|apply qk_in_ret)|((with_reducible apply ws);exact rfl;exact rfl)
  exact qk_ret1 rfl rfl ⟨d', rfl, ho, hg⟩
 ·repeat first|(with_reducible first|apply wc_seq|apply wc_region|apply wl_nil|apply qk_thn|apply wc_block)|((with_reducible apply ws);exact rfl;exact rfl)
  refine wc_no rfl (by decide) ?_
  repeat first|(with_reducible first|apply wc_seq|apply wc_region|apply wl_nil|apply qk_thn)|((with_reducible apply ws);exact rfl;exact rfl)
  refine wc_yes rfl (by decide) ?_
  repeat first|(with_reducible first|apply wc_seq|apply wc_region)|((with_reducible apply ws);exact rfl;exact rfl)|((with_reducible first|apply wl_and|apply wl_or|apply wl_shr);exact rfl;exact rfl;exact rfl;exact rfl)|((with_reducible apply wl_conv .u8);exact rfl;exact ti_u32;exact ti_u8;exact rfl;exact rfl)
  refine wl_appLit (by kernel_rfl) rfl (uvar4_bytes u h h') (by rw [hlen]; rfl) rfl rfl rfl rfl hown hB hlim (fun d' w' ho hg => ?_)
  repeat first|(with_reducible first|apply wl_nil|apply qk_thn|apply wc_ret|apply qk_thn_ret|apply qk_in_ret)|((with_reducible apply ws);exact rfl;exact rfl)
  exact qk_ret1 rfl rfl ⟨d', rfl, ho, hg⟩
 ·repeat first|(with_reducible first|apply wc_seq|apply wc_region|apply wl_nil|apply qk_thn|apply wc_block)|((with_reducible apply ws);exact rfl;exact rfl)
  refine wc_yes rfl (by decide) ?_
  repeat first|(with_reducible first|apply wc_seq|apply wc_region)|((with_reducible apply ws);exact rfl;exact rfl)|((with_reducible first|apply wl_and|apply wl_or|apply wl_shr);exact rfl;exact rfl;exact rfl;exact rfl)|((with_reducible apply wl_conv .u8);exact rfl;exact ti_u32;exact ti_u8;exact rfl;exact rfl)
  refine wl_appLit (by kernel_rfl) rfl (uvar5_bytes u h h') (by rw [hlen]; rfl) rfl rfl rfl rfl hown hB hlim (fun d' w' ho hg => ?_)
  repeat first|(with_reducible first|apply wl_nil|apply qk_thn|apply wc_ret|apply qk_thn_ret|apply qk_in_ret)|((with_reducible apply ws);exact rfl;exact rfl)
  exact qk_ret1 rfl rfl ⟨d', rfl, ho, hg⟩
end
end Go.Proofs.YtgpnpfiafcakfaaGreat

namespace Go.Proofs.YtgpnpfiafcakfaaGreat
open Go Go.RowKit
theorem be_length : ∀ (k : Nat) (n : Int), (be k n).length = k
 | 0, _ => rfl
 | k + 1, n => by simp [be, be_length k n]
def Src (w : World) (B : Nat) (v : Value) (ys : List UInt8) : Prop := BytesAt w v ys ∧ (ys = [] ∨ ∀ g, v.ownBlock = some g → g < B)
theorem Src.grew {w w' : World} {B u8 : Nat} {v d d' : Value} {xs ys : List UInt8} (h : Src w B v ys) (hg : Grew w w' d d') (ho : Own w B u8 d xs) (hB : B ≤ w.heap.size) : Src w' B v ys := by
 refine ⟨?_, h.2⟩
 rcases h.1 with ⟨a, c, rfl, rfl⟩ | ⟨b, off, c, rfl, hc⟩
 ·exact .inl ⟨a, c, rfl, rfl⟩
 ·rcases h.2 with rfl | h2
  ·exact .inl ⟨_, _, rfl, rfl⟩
  have hb : b < B := h2 b rfl
  exact .inr ⟨b, off, c, rfl, hc.of_block (hg.grown.block b (by omega) (fun e => by have := ho.ge b e.symm; omega))⟩
section
set_option maxRecDepth 100000
theorem appendInt16 (i : Int) : App 55 [.int .i16 i] (be 2 i) := by
 intro d w B xs hpre hown hB hlim
 refine enter Tryz.func55 rfl Tryz.ntmps55 rfl ?_
 have hb : be 2 (IntKind.u16.wrap i) = be 2 i := by rw [IntKind.wrap_u16]; exact be_mod 2 16 i (by omega)
 repeat first|(with_reducible first|apply wc_seq|apply wc_region|apply wl_nil|apply qk_thn)|((with_reducible apply ws);exact rfl;exact rfl)|((with_reducible apply wl_conv .u16);exact rfl;exact ti_i16;exact ti_u16;exact rfl;exact rfl)
 refine wl_call rfl (by kernel_rfl) rfl ((appendUint16 (IntKind.u16.wrap i) d w B xs trivial hown hB (by rw [hb]; exact hlim)).mono ?_)
 rintro e w' ⟨d', rfl, ho, hg⟩
 rw [hb] at ho
 refine ⟨d', rfl, ?_⟩
 repeat first|(with_reducible first|apply wl_nil|apply qk_thn|apply wc_ret)|((with_reducible apply ws);exact rfl;exact rfl)
 exact qk_ret1 rfl rfl ⟨_, rfl, ho, hg⟩
theorem appendInt64 (i : Int) : App 39 [.int .i64 i] (be 8 i) := by
 intro d w B xs hpre hown hB hlim
 refine enter Tryz.func39 rfl Tryz.ntmps39 rfl ?_
 have hb : be 8 (IntKind.u64.wrap i) = be 8 i := by rw [IntKind.wrap_u64]; exact be_mod 8 64 i (by omega)
 repeat first|(with_reducible first|apply wc_seq|apply wc_region|apply wl_nil|apply qk_thn)|((with_reducible apply ws);exact rfl;exact rfl)
 refine wl_conv .u64 rfl (by kernel_rfl) (by kernel_rfl) rfl rfl ?_
 refine wl_call rfl (by kernel_rfl) rfl ((appendUint64 (IntKind.u64.wrap i) d w B xs trivial hown hB (by rw [hb]; exact hlim)).mono ?_)
 rintro e w' ⟨d', rfl, ho, hg⟩
 rw [hb] at ho
 refine ⟨d', rfl, ?_⟩
 repeat first|(with_reducible first|apply wl_nil|apply qk_thn|apply wc_ret)|((with_reducible apply ws);exact rfl;exact rfl)
 exact qk_ret1 rfl rfl ⟨_, rfl, ho, hg⟩
theorem appendInt8 (i : Int) : App 40 [.int .i8 i] (be 1 i) := by
 intro d w B xs hpre hown hB hlim
 refine enter Tryz.func40 rfl Tryz.ntmps40 rfl ?_
 repeat first|(with_reducible first|apply wc_seq|apply wc_region|apply wl_nil|apply qk_thn)|((with_reducible apply ws);exact rfl;exact rfl)
 refine wl_conv .u8 rfl (by kernel_rfl) ti_u8 rfl (r := ((lowByte i).toNat : Int)) (wrap_u8 i) ?_
 refine wl_appLit tb_bytes rfl (ys := be 1 i) (by simp [be, bv]) rfl rfl rfl rfl rfl hown hB hlim (fun d' w' ho hg => ?_)
 repeat first|(with_reducible first|apply wl_nil|apply qk_thn|apply wc_ret)|((with_reducible apply ws);exact rfl;exact rfl)
 exact qk_ret1 rfl rfl ⟨_, rfl, ho, hg⟩
theorem appendBool (b : Bool) : App 35 [.bool b] [if b then 1 else 0] := by
 intro d w B xs hpre hown hB hlim
 refine enter Tryz.func35 rfl Tryz.ntmps35 rfl ?_
 repeat first|(with_reducible first|apply wc_seq|apply wc_region|apply wl_nil|apply qk_thn)|((with_reducible apply ws);exact rfl;exact rfl)
 cases b
 ·refine wc_no rfl rfl ?_
  repeat first|(with_reducible first|apply wc_seq|apply wc_region|apply qk_thn|apply wc_skip)|((with_reducible apply ws);exact rfl;exact rfl)
  refine wl_appLit tb_bytes rfl (ys := [0]) rfl rfl rfl rfl rfl rfl hown hB hlim (fun d' w' ho hg => ?_)
  repeat first|(with_reducible first|apply wl_nil|apply qk_thn|apply wc_ret)|((with_reducible apply ws);exact rfl;exact rfl)
  exact qk_ret1 rfl rfl ⟨_, rfl, ho, hg⟩
 ·refine wc_yes rfl rfl ?_
  repeat first|(with_reducible first|apply wc_seq|apply wc_region)|((with_reducible apply ws);exact rfl;exact rfl)
  refine wl_appLit tb_bytes rfl (ys := [1]) rfl rfl rfl rfl rfl rfl hown hB hlim (fun d' w' ho hg => ?_)
  repeat first|(with_reducible first|apply wl_nil|apply qk_thn|apply wc_ret|apply qk_thn_ret)|((with_reducible apply ws);exact rfl;exact rfl)
  exact qk_ret1 rfl rfl ⟨_, rfl, ho, hg⟩
theorem appendArrayLen (n : Nat) (hn : n < 2147483648) : App 37 [.int .i64 (n : Int)] (be 4 n) := by
 intro d w B xs hpre hown hB hlim
 refine enter Tryz.func37 rfl Tryz.ntmps37 rfl ?_
 have hw : IntKind.i32.wrap (n : Int) = n := by rw [IntKind.wrap_i32]; omega
 repeat first|(with_reducible first|apply wc_seq|apply wc_region|apply wl_nil|apply qk_thn)|((with_reducible apply ws);exact rfl;exact rfl)
 refine wl_conv .i32 rfl ti_i64 ti_i32 rfl hw ?_
 refine wl_call rfl (by kernel_rfl) rfl ((appendInt32 (n : Int) d w B xs trivial hown hB hlim).mono ?_)
 rintro e w' ⟨d', rfl, ho, hg⟩
 refine ⟨d', rfl, ?_⟩
 repeat first|(with_reducible first|apply wl_nil|apply qk_thn|apply wc_ret)|((with_reducible apply ws);exact rfl;exact rfl)
 exact qk_ret1 rfl rfl ⟨_, rfl, ho, hg⟩
theorem appendCompactArrayLen (n : Nat) (hn : n < 2147483648) : App 36 [.int .i64 (n : Int)] (uvar (n + 1)) := by
 intro d w B xs hpre hown hB hlim
 refine enter Tryz.func36 rfl Tryz.ntmps36 rfl ?_
 have hw : IntKind.u32.wrap (n : Int) = n := by rw [IntKind.wrap_u32]; omega
 have hw1 : IntKind.u32.wrap (1 + (n : Int)) = ((n + 1 : Nat) : Int) := by rw [IntKind.wrap_u32]; omega
 repeat first|(with_reducible first|apply wc_seq|apply wc_region|apply wl_nil|apply qk_thn)|((with_reducible apply ws);exact rfl;exact rfl)
 refine wl_conv .u32 rfl ti_i64 ti_u32 rfl hw (wl_add rfl rfl rfl hw1 ?_)
 refine wl_call rfl (by kernel_rfl) rfl ((appendUvarint (n + 1) (by omega) d w B xs trivial hown hB hlim).mono ?_)
 rintro e w' ⟨d', rfl, ho, hg⟩
 refine ⟨d', rfl, ?_⟩
 repeat first|(with_reducible first|apply wl_nil|apply qk_thn|apply wc_ret)|((with_reducible apply ws);exact rfl;exact rfl)
 exact qk_ret1 rfl rfl ⟨_, rfl, ho, hg⟩
theorem appendString (s : ByteArray) (hs : s.size ≤ 32767) : App 56 [.string s] (be 2 s.size ++ strB s) := by
 intro d w B xs hpre hown hB hlim
 refine enter Tryz.func56 rfl Tryz.ntmps56 rfl ?_
 simp only [List.length_append] at hlim
 simp only [be_length] at hlim
 have hsl := strB_len s
 have hb : be 2 (IntKind.i16.wrap (s.size : Int)) = be 2 s.size := by rw [show IntKind.i16.wrap (s.size : Int) = s.size from by simp [IntKind.wrap, IntKind.bits, IntKind.signed]; split <;> omega]
 repeat first|(with_reducible first|apply wc_seq|apply wc_region|apply wl_nil|apply qk_thn)|((with_reducible apply ws);exact rfl;exact rfl)
 refine wl_lenStr rfl ts_str rfl ?_
 refine wl_conv .i16 rfl ti_i64 ti_i16 rfl (r := IntKind.i16.wrap (s.size : Int)) rfl ?_
 refine wl_call rfl (by kernel_rfl) rfl ((appendInt16 (IntKind.i16.wrap (s.size : Int)) d w B xs trivial hown hB (by simp only [be_length]; omega)).mono ?_)
 rintro e w1 ⟨d1, rfl, ho1, hg1⟩
 rw [hb] at ho1
 refine ⟨d1, rfl, ?_⟩
 repeat first|(with_reducible first|apply wc_seq|apply wc_region|apply wl_nil|apply qk_thn)|((with_reducible apply ws);exact rfl;exact rfl)
 refine wl_appStr tb_bytes ts_str rfl rfl rfl ho1 (Nat.le_trans hB hg1.grown.size) (by simp only [List.length_append, be_length]; omega) (fun d' w' ho hg => ?_)
 rw [List.append_assoc] at ho
 repeat first|(with_reducible first|apply wl_nil|apply qk_thn|apply wc_ret)|((with_reducible apply ws);exact rfl;exact rfl)
 exact qk_ret1 rfl rfl ⟨_, rfl, ho, hg1.trans hg⟩
theorem appendCompactString (s : ByteArray) (hs : s.size < 2147483648) : App 54 [.string s] (uvar (s.size + 1) ++ strB s) := by
 intro d w B xs hpre hown hB hlim
 refine enter Tryz.func54 rfl Tryz.ntmps54 rfl ?_
 simp only [List.length_append] at hlim
 have hsl := strB_len s
 repeat first|(with_reducible first|apply wc_seq|apply wc_region|apply wl_nil|apply qk_thn)|((with_reducible apply ws);exact rfl;exact rfl)
 refine wl_lenStr rfl ts_str rfl ?_
 refine wl_conv .u32 rfl ti_i64 ti_u32 rfl (r := (s.size : Int)) (by rw [IntKind.wrap_u32]; omega) (wl_add rfl rfl rfl (r := ((s.size + 1 : Nat) : Int)) (by rw [IntKind.wrap_u32]; omega) ?_)
 refine wl_call rfl (by kernel_rfl) rfl ((appendUvarint (s.size + 1) (by omega) d w B xs trivial hown hB (by omega)).mono ?_)
 rintro e w1 ⟨d1, rfl, ho1, hg1⟩
 refine ⟨d1, rfl, ?_⟩
 repeat first|(with_reducible first|apply wc_seq|apply wc_region|apply wl_nil|apply qk_thn)|((with_reducible apply ws);exact rfl;exact rfl)
 refine wl_appStr tb_bytes ts_str rfl rfl rfl ho1 (Nat.le_trans hB hg1.grown.size) (by simp only [List.length_append]; omega) (fun d' w' ho hg => ?_)
 rw [List.append_assoc] at ho
 repeat first|(with_reducible first|apply wl_nil|apply qk_thn|apply wc_ret)|((with_reducible apply ws);exact rfl;exact rfl)
 exact qk_ret1 rfl rfl ⟨_, rfl, ho, hg1.trans hg⟩
theorem appendNullableString_nil : App 33 [.pointer none] (be 2 (-1)) := by
 intro d w B xs hpre hown hB hlim
 refine enter Tryz.func33 rfl Tryz.ntmps33 rfl ?_
 repeat first|(with_reducible first|apply wc_seq|apply wc_region|apply wl_nil|apply qk_thn)|((with_reducible apply ws);exact rfl;exact rfl)
 refine wl_ptrNil rfl (by kernel_rfl) rfl ?_
 repeat (with_reducible first|apply wl_nil|apply qk_thn)
 refine wc_yes rfl rfl ?_
 repeat first|(with_reducible first|apply wc_seq|apply wc_region)|((with_reducible apply ws);exact rfl;exact rfl)
 refine wl_call rfl (by kernel_rfl) rfl ((appendInt16 (-1) d w B xs trivial hown hB hlim).mono ?_)
 rintro e w' ⟨d', rfl, ho, hg⟩
 refine ⟨d', rfl, ?_⟩
 repeat first|(with_reducible first|apply wl_nil|apply qk_thn|apply wc_ret|apply qk_thn_ret)|((with_reducible apply ws);exact rfl;exact rfl)
 exact qk_ret1 rfl rfl ⟨_, rfl, ho, hg⟩
theorem appendCompactNullableString_nil : App 32 [.pointer none] (uvar 0) := by
 intro d w B xs hpre hown hB hlim
 refine enter Tryz.func32 rfl Tryz.ntmps32 rfl ?_
 repeat first|(with_reducible first|apply wc_seq|apply wc_region|apply wl_nil|apply qk_thn)|((with_reducible apply ws);exact rfl;exact rfl)
 refine wl_ptrNil rfl (by kernel_rfl) rfl ?_
 repeat (with_reducible first|apply wl_nil|apply qk_thn)
 refine wc_yes rfl rfl ?_
 repeat first|(with_reducible first|apply wc_seq|apply wc_region)|((with_reducible apply ws);exact rfl;exact rfl)
 refine wl_call rfl (by kernel_rfl) rfl ((appendUvarint 0 (by omega) d w B xs trivial hown hB hlim).mono ?_)
 rintro e w' ⟨d', rfl, ho, hg⟩
 refine ⟨d', rfl, ?_⟩
 repeat first|(with_reducible first|apply wl_nil|apply qk_thn|apply wc_ret|apply qk_thn_ret)|((with_reducible apply ws);exact rfl;exact rfl)
 exact qk_ret1 rfl rfl ⟨_, rfl, ho, hg⟩
theorem appendNullableString_some (p : Addr) (s : ByteArray) (hs : s.size ≤ 32767) : AppW 33 [.pointer (some p)] (fun w _ => w.cell? p = some (.string s)) (be 2 s.size ++ strB s) := by
 intro d w B xs hpre hown hB hlim
 refine enter Tryz.func33 rfl Tryz.ntmps33 rfl ?_
 repeat first|(with_reducible first|apply wc_seq|apply wc_region|apply wl_nil|apply qk_thn)|((with_reducible apply ws);exact rfl;exact rfl)
 refine wl_ptrNil rfl (by kernel_rfl) rfl ?_
 repeat (with_reducible first|apply wl_nil|apply qk_thn)
 refine wc_no rfl rfl ?_
 repeat first|(with_reducible first|apply wc_seq|apply wc_region|apply qk_thn|apply wc_skip)|((with_reducible apply ws);exact rfl;exact rfl)
 refine wl_load rfl (by kernel_rfl) rfl hpre ?_
 refine wl_call rfl (by kernel_rfl) rfl ((appendString s hs d w B xs trivial hown hB hlim).mono ?_)
 rintro e w' ⟨d', rfl, ho, hg⟩
 refine ⟨d', rfl, ?_⟩
 repeat first|(with_reducible first|apply wl_nil|apply qk_thn|apply wc_ret)|((with_reducible apply ws);exact rfl;exact rfl)
 exact qk_ret1 rfl rfl ⟨_, rfl, ho, hg⟩
theorem appendCompactNullableString_some (p : Addr) (s : ByteArray) (hs : s.size < 2147483648) : AppW 32 [.pointer (some p)] (fun w _ => w.cell? p = some (.string s)) (uvar (s.size + 1) ++ strB s) := by
 intro d w B xs hpre hown hB hlim
 refine enter Tryz.func32 rfl Tryz.ntmps32 rfl ?_
 repeat first|(with_reducible first|apply wc_seq|apply wc_region|apply wl_nil|apply qk_thn)|((with_reducible apply ws);exact rfl;exact rfl)
 refine wl_ptrNil rfl (by kernel_rfl) rfl ?_
 repeat (with_reducible first|apply wl_nil|apply qk_thn)
 refine wc_no rfl rfl ?_
 repeat first|(with_reducible first|apply wc_seq|apply wc_region|apply qk_thn|apply wc_skip)|((with_reducible apply ws);exact rfl;exact rfl)
 refine wl_load rfl (by kernel_rfl) rfl hpre ?_
 refine wl_call rfl (by kernel_rfl) rfl ((appendCompactString s hs d w B xs trivial hown hB hlim).mono ?_)
 rintro e w' ⟨d', rfl, ho, hg⟩
 refine ⟨d', rfl, ?_⟩
 repeat first|(with_reducible first|apply wl_nil|apply qk_thn|apply wc_ret)|((with_reducible apply ws);exact rfl;exact rfl)
 exact qk_ret1 rfl rfl ⟨_, rfl, ho, hg⟩
end
end Go.Proofs.YtgpnpfiafcakfaaGreat

namespace Go.Proofs.YtgpnpfiafcakfaaGreat
open Go Go.RowKit
section
set_option maxRecDepth 100000
def Fn (F : FuncId) (vs : List Value) (w : World) (R : Value → World → Prop) : Prop :=
 Calls Tryz.prog F vs.toArray w fun e w' => ∃ v, e = .returned v ∧ Below w.heap.size w w' ∧ R v w'
theorem fn_has (f : Fld) (ver : Int) (B : Nat) (w : World) (_hB : B ≤ w.heap.size) (cs : List Value) (hf : Rep (Lo B) w (fldD f) cs) :
  Fn 47 [.agg cs.toArray, .int .i64 ver] w fun v _ => v = .bool (f.has ver) := by
 obtain ⟨sv, rfl, _⟩ := fld_cells hf
 refine enter Tryz.func47 rfl Tryz.ntmps47 rfl ?_
 repeat (with_reducible first|apply wc_seq|apply wc_region)
 refine wl_box1 rfl rfl rfl (fun w1 hb hg hs => ?_)
 repeat first|(with_reducible first|apply wc_seq|apply wc_region|apply wl_nil|apply qk_thn)|((with_reducible apply ws);exact rfl;exact rfl)
 refine wl_loadB rfl to_int rfl hb rfl ?_
 repeat ((with_reducible apply ws);exact rfl;exact rfl)
 have hfin : Below w.heap.size w w1 := below_of hg (Nat.le_refl _) (by simp)
 by_cases h1 : f.fr ≤ ver
 ·have e1 : decide (f.fr ≤ ver) = true := by simpa using h1
  rw [e1]
  repeat first|((with_reducible apply ws);exact rfl;exact rfl)|((with_reducible apply wl_yes);exact rfl;exact rfl;exact rfl)
  refine wl_loadB rfl to_int rfl hb rfl ?_
  repeat first|((with_reducible apply ws);exact rfl;exact rfl)|((with_reducible apply wl_yes);exact rfl;exact rfl;exact rfl)
  by_cases h2 : f.upto < 0
  ·have e2 : decide (f.upto < 0) = true := by simpa using h2
   rw [e2]
   repeat first|(with_reducible first|apply wl_nil|apply qk_thn|apply wc_ret)|((with_reducible apply ws);exact rfl;exact rfl)|((with_reducible apply wl_yes);exact rfl;exact rfl;exact rfl)|((with_reducible apply wl_no);exact rfl;exact rfl;exact rfl;exact rfl)
   exact qk_ret1 rfl rfl ⟨_, rfl, hfin, by simp [Fld.has, h1, h2]⟩
  ·have e2 : decide (f.upto < 0) = false := by simpa using h2
   rw [e2]
   repeat first|((with_reducible apply ws);exact rfl;exact rfl)|((with_reducible apply wl_yes);exact rfl;exact rfl;exact rfl)
   refine wl_loadB rfl to_int rfl hb rfl ?_
   repeat first|(with_reducible first|apply wl_nil|apply qk_thn|apply wc_ret)|((with_reducible apply ws);exact rfl;exact rfl)|((with_reducible apply wl_yes);exact rfl;exact rfl;exact rfl)
   exact qk_ret1 rfl rfl ⟨_, rfl, hfin, by simp [Fld.has, h1, h2]⟩
 ·have e1 : decide (f.fr ≤ ver) = false := by simpa using h1
  rw [e1]
  repeat first|(with_reducible first|apply wl_nil|apply qk_thn|apply wc_ret)|((with_reducible apply ws);exact rfl;exact rfl)|((with_reducible apply wl_no);exact rfl;exact rfl;exact rfl;exact rfl)|((with_reducible apply wl_noU);exact rfl;exact rfl;exact rfl)
  exact qk_ret1 rfl rfl ⟨_, rfl, hfin, by simp [Fld.has, h1]⟩
theorem fn_null (f : Fld) (ver : Int) (t : Tree) (B : Nat) (w : World) (_hB : B ≤ w.heap.size) (cs ts : List Value) (hf : Rep (Lo B) w (fldD f) cs) (ht : Rep (Lo B) w (treeD t) ts) :
  Fn 44 [.agg cs.toArray, .int .i64 ver, .agg ts.toArray] w fun v _ => v = .bool (f.null ver t) := by
 obtain ⟨sv, rfl, _⟩ := fld_cells hf
 obtain ⟨sv2, lv, uv, rfl, _, _, _⟩ := tree_cells ht
 refine enter Tryz.func44 rfl Tryz.ntmps44 rfl ?_
 repeat (with_reducible first|apply wc_seq|apply wc_region)
 refine wl_box1 rfl rfl rfl (fun w1 hb1 hg1 hs1 => wl_box1 rfl rfl rfl (fun w2 hb2 hg2 hs2 => ?_))
 have hb := hb1.kept hg2 (by simp)
 have hfin : Below w.heap.size w w2 := (below_of hg1 (Nat.le_refl _) (by simp)).trans (below_of hg2 (by omega) (by simp))
 repeat first|(with_reducible first|apply wc_seq|apply wc_region|apply wl_nil|apply qk_thn)|((with_reducible apply ws);exact rfl;exact rfl)
 refine wl_loadB rfl to_bool rfl hb2 rfl ?_
 repeat ((with_reducible apply ws);exact rfl;exact rfl)
 cases hn : t.nul
 ·repeat first|(with_reducible first|apply wl_nil|apply qk_thn|apply wc_ret)|((with_reducible apply ws);exact rfl;exact rfl)|((with_reducible apply wl_no);exact rfl;exact rfl;exact rfl;exact rfl)
  exact qk_ret1 rfl rfl ⟨_, rfl, hfin, by simp [Fld.null, hn]⟩
 ·repeat first|((with_reducible apply ws);exact rfl;exact rfl)|((with_reducible apply wl_yes);exact rfl;exact rfl;exact rfl)
  refine wl_loadB rfl to_int rfl hb rfl ?_
  repeat first|((with_reducible apply ws);exact rfl;exact rfl)|((with_reducible apply wl_yes);exact rfl;exact rfl;exact rfl)
  by_cases h1 : 0 ≤ f.nul
  ·have e1 : decide (0 ≤ f.nul) = true := by simpa using h1
   rw [e1]
   repeat first|((with_reducible apply ws);exact rfl;exact rfl)|((with_reducible apply wl_yes);exact rfl;exact rfl;exact rfl)
   refine wl_loadB rfl to_int rfl hb rfl ?_
   repeat first|(with_reducible first|apply wl_nil|apply qk_thn|apply wc_ret)|((with_reducible apply ws);exact rfl;exact rfl)|((with_reducible apply wl_yes);exact rfl;exact rfl;exact rfl)
   exact qk_ret1 rfl rfl ⟨_, rfl, hfin, by simp [Fld.null, hn, h1]⟩
  ·have e1 : decide (0 ≤ f.nul) = false := by simpa using h1
   rw [e1]
   repeat first|(with_reducible first|apply wl_nil|apply qk_thn|apply wc_ret)|((with_reducible apply ws);exact rfl;exact rfl)|((with_reducible apply wl_no);exact rfl;exact rfl;exact rfl;exact rfl)
   exact qk_ret1 rfl rfl ⟨_, rfl, hfin, by simp [Fld.null, hn, h1]⟩
theorem fn_at (t : Tree) (i : Nat) (B : Nat) (w : World) (hB : B ≤ w.heap.size) (ts : List Value) (ht : Rep (Lo B) w (treeD t) ts) :
  Fn 21 [.agg ts.toArray, .int .i64 (i : Int)] w fun v w' => ∃ cs : List Value, v = .agg cs.toArray ∧ Rep (Lo B) w' (treeD (att t i)) cs := by
 obtain ⟨sv2, lv, uv, rfl, _, hl, _⟩ := tree_cells ht
 obtain ⟨la, lc, rfl, _⟩ := hl.shape
 refine enter Tryz.func21 rfl Tryz.ntmps21 rfl ?_
 repeat (with_reducible first|apply wc_seq|apply wc_region)
 refine wl_box1 rfl rfl rfl (fun w1 hb1 hg1 hs1 => wl_alloc zv_tree rfl rfl (fun w2 hb2 hg2 hs2 => ?_))
 have hb := hb1.kept hg2 (by simp)
 have hw2 : Below w.heap.size w w2 := (below_of hg1 (Nat.le_refl _) (by simp)).trans (below_of hg2 (by omega) (by simp))
 repeat first|(with_reducible first|apply wc_seq|apply wc_region|apply wl_nil|apply qk_thn)|((with_reducible apply ws);exact rfl;exact rfl)
 refine wl_loadB rfl to_trees rfl hb rfl ?_
 repeat first|(with_reducible first|apply wl_nil|apply qk_thn)|((with_reducible apply ws);exact rfl;exact rfl)
 by_cases h : i < t.l.length
 ·refine wc_yes rfl (by simpa using h) ?_
  have hl2 := hl.below (hw2.mono hB) (Nat.le_refl _)
  obtain ⟨b, off, c, cs, hv, hbB, hcs, hlen, hr⟩ := hl2.get (sz := 5) (i := i) (by intro d hd; obtain ⟨x, _, rfl⟩ := List.mem_map.1 hd; exact treeD_width x) (by simpa using h)
  simp only [Value.slice.injEq, List.length_map] at hv
  obtain ⟨rfl, _, rfl⟩ := hv
  simp only [List.getElem_map] at hr
  repeat first|(with_reducible first|apply wc_seq|apply wc_region)|((with_reducible apply ws);exact rfl;exact rfl)
  refine wl_loadB rfl to_trees rfl hb rfl ?_
  repeat ((with_reducible apply ws);exact rfl;exact rfl)
  refine wl_indexAddr rfl rfl es_trees rfl (by simpa using h) ?_
  refine wl_loadAgg rfl (by rw [hlen]; exact ta_tree) rfl (fun j v e => hcs.cell e) ?_
  obtain ⟨hone, hlen5⟩ := tree_one hr
  refine wl_storeBAgg rfl rfl rfl (by rw [hlen5]; exact tz_tree) hone hb2 (by rw [hlen5]; rfl) (fun w3 hb3 hg3 hs3 => ?_)
  repeat (with_reducible first|apply wl_nil|apply qk_thn|apply wc_ret|apply qk_thn_ret)
  have hw3 : Below w.heap.size w w3 := hw2.trans (below_of hg3 (by omega) (by intro k hk; simp at hk; omega))
  refine qk_retCell rfl rfl (by rw [hlen5]; exact ta_tree) hb3 ⟨_, rfl, hw3, cs, rfl, ?_⟩
  have : att t i = t.l[i] := by simp [att, h]
  rw [this]
  exact hr.below (below_of hg3 (by omega) (by intro k hk; simp at hk; omega)) (Nat.le_refl _)
 ·refine wc_no rfl (by simpa using h) ?_
  repeat (with_reducible first|apply wc_seq|apply wc_region|apply qk_thn|apply wc_skip)
  refine wl_build rfl (cs := [.int .i64 0, .slice none 0 0, .bool false, .slice none 0 0, .slice none 0 0]) (by kernel_rfl) rfl ?_
  refine wl_storeBAgg rfl rfl rfl tz_tree rfl hb2 rfl (fun w3 hb3 hg3 hs3 => ?_)
  repeat (with_reducible first|apply wl_nil|apply qk_thn|apply wc_ret)
  have hw3 : Below w.heap.size w w3 := hw2.trans (below_of hg3 (by omega) (by intro k hk; simp at hk; omega))
  refine qk_retCell (cs := [.int .i64 0, .slice none 0 0, .bool false, .slice none 0 0, .slice none 0 0]) rfl rfl ta_tree hb3 ⟨_, rfl, hw3, _, rfl, ?_⟩
  have : att t i = Tree.none := by simp [att, List.getD, List.getElem?_eq_none (by omega : t.l.length ≤ i)]
  rw [this]
  exact tree_none _ _
theorem take_min {α : Type} (l : List α) (n : Nat) : l.take (min l.length n) = l.take n := by
 by_cases h : n ≤ l.length
 ·rw [Nat.min_eq_right h]
 ·rw [Nat.min_eq_left (by omega), List.take_of_length_le (by omega), List.take_of_length_le (by omega)]
theorem min_if (n : Nat) : (if (32767 : Int) < (n : Int) then (32767 : Int) else (n : Int)) = ((min n Most : Nat) : Int) := by
 unfold Most
 split <;> omega
theorem fn_whole (v : Value) (ds : List D) (B : Nat) (w : World) (h : Sq B w v ds) : Fn 23 [v] w fun v' w' => w' = w ∧ Sq B w v' (ds.take Most) := by
 obtain ⟨a, c, rfl, hc⟩ := h.shape
 refine enter Tryz.func23 rfl Tryz.ntmps23 rfl ?_
 repeat first|(with_reducible first|apply wc_seq|apply wc_region|apply wl_nil|apply qk_thn)|((with_reducible apply ws);exact rfl;exact rfl)
 refine wl_min rfl rfl rfl (min_if ds.length) ?_
 refine wl_sliceHi rfl rfl el_bytes rfl (by omega) ?_
 repeat first|(with_reducible first|apply wl_nil|apply qk_thn|apply wc_ret)|((with_reducible apply ws);exact rfl;exact rfl)
 exact qk_ret1 rfl rfl ⟨_, rfl, Below.refl _ _, rfl, by rw [← take_min ds Most]; exact h.take (by omega)⟩
theorem fn_things (v : Value) (ds : List D) (B : Nat) (w : World) (h : Sq B w v ds) : Fn 45 [v] w fun v' w' => w' = w ∧ Sq B w v' (ds.take Most) := by
 obtain ⟨a, c, rfl, hc⟩ := h.shape
 refine enter Tryz.func45 rfl Tryz.ntmps45 rfl ?_
 repeat first|(with_reducible first|apply wc_seq|apply wc_region|apply wl_nil|apply qk_thn)|((with_reducible apply ws);exact rfl;exact rfl)
 refine wl_min rfl rfl rfl (min_if ds.length) ?_
 refine wl_sliceHi rfl rfl el_trees rfl (by omega) ?_
 repeat first|(with_reducible first|apply wl_nil|apply qk_thn|apply wc_ret)|((with_reducible apply ws);exact rfl;exact rfl)
 exact qk_ret1 rfl rfl ⟨_, rfl, Below.refl _ _, rfl, by rw [← take_min ds Most]; exact h.take (by omega)⟩
theorem fn_width (k : Int) (w : World) : Fn 65 [.int .i64 k] w fun v' w' => w' = w ∧ v' = .int .i64 (width k : Nat) := by
 refine enter Tryz.func65 rfl Tryz.ntmps65 rfl ?_
 repeat first|(with_reducible first|apply wc_seq|apply wc_region|apply wl_nil|apply qk_thn|apply wc_block)|((with_reducible apply ws);exact rfl;exact rfl)
 by_cases h1 : k = 1
 ·subst h1
  refine wc_yes rfl (by decide) ?_
  repeat first|(with_reducible first|apply wc_seq|apply wc_region|apply wl_nil|apply qk_thn|apply wc_ret|apply qk_thn_ret|apply qk_in_ret)|((with_reducible apply ws);exact rfl;exact rfl)
  exact qk_ret1 rfl rfl ⟨_, rfl, Below.refl _ _, rfl, rfl⟩
 ·refine wc_no rfl (by simpa using h1) ?_
  repeat first|(with_reducible first|apply wc_seq|apply wc_region|apply wl_nil|apply qk_thn)|((with_reducible apply ws);exact rfl;exact rfl)
  by_cases h2 : k = 2
  ·subst h2
   refine wc_yes rfl (by decide) ?_
   repeat (with_reducible first|apply qk_thn|apply wc_skip)
   refine wc_yes rfl (by decide) ?_
   repeat first|(with_reducible first|apply wc_seq|apply wc_region|apply wl_nil|apply qk_thn|apply wc_ret|apply qk_thn_ret|apply qk_in_ret)|((with_reducible apply ws);exact rfl;exact rfl)
   exact qk_ret1 rfl rfl ⟨_, rfl, Below.refl _ _, rfl, rfl⟩
  ·refine wc_no rfl (by simpa using h2) ?_
   repeat first|(with_reducible first|apply wc_region|apply wl_nil|apply qk_thn)|((with_reducible apply ws);exact rfl;exact rfl)
   by_cases h5 : k = 5
   ·subst h5
    refine wc_yes rfl (by decide) ?_
    repeat first|(with_reducible first|apply wc_seq|apply wc_region|apply wl_nil|apply qk_thn|apply wc_ret|apply qk_thn_ret|apply qk_in_ret)|((with_reducible apply ws);exact rfl;exact rfl)
    exact qk_ret1 rfl rfl ⟨_, rfl, Below.refl _ _, rfl, rfl⟩
   ·refine wc_no rfl (by simpa using h5) ?_
    repeat first|(with_reducible first|apply wc_seq|apply wc_region|apply wl_nil|apply qk_thn)|((with_reducible apply ws);exact rfl;exact rfl)
    by_cases h3 : k = 3
    ·subst h3
     refine wc_yes rfl (by decide) ?_
     repeat first|(with_reducible first|apply wc_seq|apply wc_region|apply wl_nil|apply qk_thn|apply wc_ret|apply qk_thn_ret|apply qk_in_ret)|((with_reducible apply ws);exact rfl;exact rfl)
     exact qk_ret1 rfl rfl ⟨_, rfl, Below.refl _ _, rfl, rfl⟩
    ·refine wc_no rfl (by simpa using h3) ?_
     repeat first|(with_reducible first|apply wc_seq|apply wc_region|apply wl_nil|apply qk_thn|apply wc_skip|apply wc_ret|apply qk_in)|((with_reducible apply ws);exact rfl;exact rfl)
     exact qk_ret1 rfl rfl ⟨_, rfl, Below.refl _ _, rfl, by simp [width, h1, h2, h5, h3]⟩
structure FxS where
 k : Nat
 d : Value
 xs : List UInt8
theorem fn_fixed (n : Int) (size : Nat) (hs : size ≤ 8) (w : World) : Fn 64 [.int .i64 n, .int .i64 (size : Int)] w fun v w' => Own w' w.heap.size 5 v (be size n) := by
 refine enter Tryz.func64 rfl Tryz.ntmps64 rfl ?_
 repeat first|(with_reducible first|apply wc_seq|apply wc_region|apply wl_nil|apply qk_thn)|((with_reducible apply ws);exact rfl;exact rfl)
 refine wl_sub' rfl rfl rfl (r := (size : Int) - 1) (by rw [IntKind.wrap_i64]; omega) ?_
 repeat first|(with_reducible first|apply wl_nil|apply qk_thn|apply wc_block)|((with_reducible apply ws);exact rfl;exact rfl)
 refine wc_loop (α := FxS) (fun x => [(6, .int .i64 ((x.k : Int) - 1)), (5, x.d), (0, .int .i64 n)]) (fun x w' => x.k ≤ size ∧ x.xs ++ be x.k n = be size n ∧ Own w' w.heap.size 5 x.d x.xs ∧ Below w.heap.size w w') (fun x => x.k) ⟨size, .slice none 0 0, []⟩ ⟨rfl, rfl, rfl, trivial⟩ ⟨Nat.le_refl _, rfl, Own.nil _ _ _, Below.refl _ _⟩ ?_
 rintro ⟨k, d, xs⟩ w1 ⟨hk, hx, ho, hb⟩
 simp only [] at hk hx ho
 change WC _ _ _ _ [(6, .int .i64 ((k : Int) - 1)), (5, d), (0, .int .i64 n)] _
 repeat first|(with_reducible first|apply wc_seq|apply wc_region|apply wl_nil|apply qk_thn)|((with_reducible apply ws);exact rfl;exact rfl)
 cases k with
 | zero =>
  refine wc_no rfl (by decide) ?_
  repeat first|(with_reducible first|apply wc_seq|apply wc_region|apply wl_nil|apply qk_thn|apply wc_ret|apply wc_exit|apply qk_thn_exit|apply qk_in_exit|apply qk_round_exit)|((with_reducible apply ws);exact rfl;exact rfl)
  simp only [be, List.append_nil] at hx
  exact qk_ret1 rfl rfl ⟨_, rfl, hb, hx ▸ ho⟩
 | succ k =>
  refine wc_yes rfl (by simp) ?_
  repeat first|(with_reducible first|apply wc_seq|apply wc_region|apply qk_thn|apply wc_block|apply wc_skip)|((with_reducible apply ws);exact rfl;exact rfl)
  refine wl_mul rfl rfl rfl (r := ((8 * k : Nat) : Int)) (by rw [IntKind.wrap_i64]; omega) ?_
  refine wl_shrV rfl rfl rfl (by omega) (r := n / (2 ^ (8 * k) : Nat)) ?_ ?_
  ·rw [show min ((8 * k : Nat) : Int).toNat IntKind.i64.bits = 8 * k from by simp [IntKind.bits]; omega, Int.fdiv_eq_ediv_of_nonneg _ (by exact_mod_cast Nat.zero_le _)]
   push_cast; rfl
  refine wl_conv .u8 rfl ti_l64 ti_u8 rfl (wrap_u8 _) ?_
  refine wl_appLit tb_bytes rfl (ys := [lowByte (n / (2 ^ (8 * k) : Nat))]) rfl rfl rfl rfl rfl rfl ho hb.size ?_ (fun d' w2 ho2 hg2 => ?_)
  ·have := congrArg List.length hx
   simp only [List.length_append, be_length] at this
   simp only [List.length_cons, List.length_nil, lim]
   omega
  repeat first|(with_reducible first|apply wc_region|apply wl_nil|apply qk_thn|apply qk_in)|((with_reducible apply ws);exact rfl;exact rfl)
  refine wl_sub' rfl rfl rfl (r := (k : Int) - 1) (by rw [IntKind.wrap_i64]; omega) ?_
  repeat first|(with_reducible apply wl_nil)|((with_reducible apply ws);exact rfl;exact rfl)
  refine qk_round ⟨k, d', xs ++ [lowByte (n / (2 ^ (8 * k) : Nat))]⟩ ⟨rfl, rfl, rfl, trivial⟩ ⟨by simp only []; omega, ?_, ho2, hb.trans (hg2.below hb.size ho.ge)⟩ (by simp)
  simp only [List.append_assoc]
  rw [← hx]; rfl
theorem uvar_pos (n : Nat) : 1 ≤ (uvar n).length := by rw [uvar]; split <;> simp
theorem uvar_len_le : ∀ (k n : Nat), n < 2 ^ (7 * k) → (uvar n).length ≤ k + 1
 | 0, n, h => by rw [uvar_lt (by simpa using (by omega : n < 128))]; simp
 | k + 1, n, h => by
  by_cases h1 : n < 128
  ·rw [uvar_lt h1]; simp
  ·rw [uvar_ge (by omega)]
   have := uvar_len_le k (n / 128) (by
    rw [show 7 * (k + 1) = 7 * k + 7 from by omega, Nat.pow_add] at h
    exact Nat.div_lt_of_lt_mul (by rw [Nat.mul_comm]; exact h))
   simp only [List.length_cons]; omega
structure UvS where
 m : Nat
 d : Value
 xs : List UInt8
theorem fn_uvarint (n : Nat) (hn : n < 18446744073709551616) (w : World) : Fn 50 [.int .u64 (n : Int)] w fun v w' => Own w' w.heap.size 5 v (uvar n) := by
 have hlen : (uvar n).length ≤ 11 := uvar_len_le 10 n (Nat.lt_of_lt_of_le hn (by decide))
 refine enter Tryz.func50 rfl Tryz.ntmps50 rfl ?_
 repeat first|(with_reducible first|apply wc_seq|apply wc_region|apply wl_nil|apply qk_thn|apply wc_block)|((with_reducible apply ws);exact rfl;exact rfl)
 refine wc_loop (α := UvS) (fun x => [(0, .int .u64 (x.m : Int)), (3, x.d)]) (fun x w' => x.m ≤ n ∧ x.xs ++ uvar x.m = uvar n ∧ Own w' w.heap.size 5 x.d x.xs ∧ Below w.heap.size w w') (fun x => x.m) ⟨n, .slice none 0 0, []⟩ ⟨rfl, rfl, trivial⟩ ⟨Nat.le_refl _, rfl, Own.nil _ _ _, Below.refl _ _⟩ ?_
 rintro ⟨m, d, xs⟩ w1 ⟨hm, hx, ho, hb⟩
 simp only [] at hm hx ho
 change WC _ _ _ _ [(0, .int .u64 (m : Int)), (3, d)] _
 have hl := congrArg List.length hx
 simp only [List.length_append] at hl
 have := uvar_pos m
 repeat first|(with_reducible first|apply wc_seq|apply wc_region|apply wl_nil|apply qk_thn)|((with_reducible apply ws);exact rfl;exact rfl)
 by_cases h : m < 128
 ·refine wc_no rfl (by simp; omega) ?_
  repeat first|(with_reducible first|apply wc_seq|apply wc_region|apply qk_thn|apply wc_exit|apply qk_thn_exit|apply qk_in_exit|apply qk_round_exit)|((with_reducible apply ws);exact rfl;exact rfl)
  refine wl_conv .u8 rfl ti_u64 ti_u8 rfl (r := ((UInt8.ofNat m).toNat : Int)) (by rw [byteNat m (by omega), IntKind.wrap_u8]; omega) ?_
  refine wl_appLit tb_bytes rfl (ys := [UInt8.ofNat m]) rfl rfl rfl rfl rfl rfl ho hb.size (by simp only [List.length_cons, List.length_nil, lim]; omega) (fun d' w2 ho2 hg2 => ?_)
  repeat first|(with_reducible first|apply wl_nil|apply qk_thn|apply wc_ret)|((with_reducible apply ws);exact rfl;exact rfl)
  rw [uvar_lt h] at hx
  exact qk_ret1 rfl rfl ⟨_, rfl, hb.trans (hg2.below hb.size ho.ge), hx ▸ ho2⟩
 ·refine wc_yes rfl (by simp; omega) ?_
  repeat first|(with_reducible first|apply wc_seq|apply wc_region|apply qk_thn|apply wc_block|apply wc_skip)|((with_reducible apply ws);exact rfl;exact rfl)
  refine wl_and rfl rfl rfl (and127w m (by omega)) ?_
  refine wl_conv .u8 rfl ti_u64 ti_u8 rfl (r := ((m % 128 : Nat) : Int)) (by rw [IntKind.wrap_u8]; omega) ?_
  refine wl_or rfl rfl rfl (r := ((UInt8.ofNat (m % 128 + 128)).toNat : Int)) (by rw [or128b _ (by omega), byteNat _ (by omega)]) ?_
  refine wl_appLit tb_bytes rfl (ys := [UInt8.ofNat (m % 128 + 128)]) rfl rfl rfl rfl rfl rfl ho hb.size (by simp only [List.length_cons, List.length_nil, lim]; omega) (fun d' w2 ho2 hg2 => ?_)
  repeat first|(with_reducible first|apply wc_region|apply wl_nil|apply qk_thn)|((with_reducible apply ws);exact rfl;exact rfl)
  refine wl_shr rfl rfl rfl (r := ((m / 128 : Nat) : Int)) (shr_nat m 7 64 (by omega)) ?_
  repeat first|(with_reducible first|apply wl_nil|apply qk_in)|((with_reducible apply ws);exact rfl;exact rfl)
  refine qk_round ⟨m / 128, d', xs ++ [UInt8.ofNat (m % 128 + 128)]⟩ ⟨rfl, rfl, trivial⟩ ⟨by simp only []; omega, ?_, ho2, hb.trans (hg2.below hb.size ho.ge)⟩ (by simp only []; omega)
  simp only [List.append_assoc]
  rw [← hx, uvar_ge (n := m) (by omega)]; rfl
theorem fn_counted (flex null : Bool) (n size : Nat) (hn : n < 9223372036854775807) (hs : size ≤ 8) (w : World) :
  Fn 62 [.bool flex, .bool null, .int .i64 (n : Int), .int .i64 (size : Int)] w fun v w' => Own w' w.heap.size 5 v (counted flex null n size) := by
 refine enter Tryz.func62 rfl Tryz.ntmps62 rfl ?_
 repeat first|(with_reducible first|apply wc_seq|apply wc_region|apply wl_nil|apply qk_thn|apply wc_block)|((with_reducible apply ws);exact rfl;exact rfl)
 cases flex
 ·repeat first|(with_reducible first|apply wl_nil|apply qk_thn)|((with_reducible apply ws);exact rfl;exact rfl)|((with_reducible apply wl_no);exact rfl;exact rfl;exact rfl;exact rfl)
  refine wc_no rfl rfl ?_
  repeat first|(with_reducible first|apply wc_seq|apply wc_region|apply wl_nil|apply qk_thn)|((with_reducible apply ws);exact rfl;exact rfl)
  refine wc_no rfl rfl ?_
  repeat first|(with_reducible first|apply wc_seq|apply wc_region|apply wl_nil|apply qk_thn)|((with_reducible apply ws);exact rfl;exact rfl)
  cases null
  ·refine wc_no rfl rfl ?_
   repeat first|(with_reducible first|apply wc_seq|apply wc_region|apply qk_thn|apply wc_skip|apply qk_in)|((with_reducible apply ws);exact rfl;exact rfl)
   refine wl_call rfl (by kernel_rfl) rfl ((fn_fixed n size hs w).mono ?_)
   rintro e w' ⟨v, rfl, hb, ho⟩
   refine ⟨v, rfl, ?_⟩
   repeat first|(with_reducible first|apply wl_nil|apply qk_thn|apply wc_ret)|((with_reducible apply ws);exact rfl;exact rfl)
   exact qk_ret1 rfl rfl ⟨_, rfl, hb, by simpa [counted] using ho⟩
  ·refine wc_yes rfl rfl ?_
   repeat first|(with_reducible first|apply wc_seq|apply wc_region)|((with_reducible apply ws);exact rfl;exact rfl)
   refine wl_call rfl (by kernel_rfl) rfl ((fn_fixed (-1) size hs w).mono ?_)
   rintro e w' ⟨v, rfl, hb, ho⟩
   refine ⟨v, rfl, ?_⟩
   repeat first|(with_reducible first|apply wl_nil|apply qk_thn|apply wc_ret|apply qk_thn_ret|apply qk_in_ret)|((with_reducible apply ws);exact rfl;exact rfl)
   exact qk_ret1 rfl rfl ⟨_, rfl, hb, by simpa [counted] using ho⟩
 ·repeat first|(with_reducible first|apply wl_nil|apply qk_thn)|((with_reducible apply ws);exact rfl;exact rfl)|((with_reducible apply wl_yes);exact rfl;exact rfl;exact rfl)
  cases null
  ·refine wc_no rfl rfl ?_
   repeat first|(with_reducible first|apply wc_seq|apply wc_region|apply wl_nil|apply qk_thn)|((with_reducible apply ws);exact rfl;exact rfl)
   refine wc_yes rfl rfl ?_
   repeat first|(with_reducible first|apply wc_seq|apply wc_region)|((with_reducible apply ws);exact rfl;exact rfl)
   refine wl_conv .u64 rfl ti_i64 ti_u64 rfl (r := (n : Int)) (by rw [IntKind.wrap_u64]; omega) ?_
   refine wl_add rfl rfl rfl (r := ((n + 1 : Nat) : Int)) (by rw [IntKind.wrap_u64]; omega) ?_
   refine wl_call rfl (by kernel_rfl) rfl ((fn_uvarint (n + 1) (by omega) w).mono ?_)
   rintro e w' ⟨v, rfl, hb, ho⟩
   refine ⟨v, rfl, ?_⟩
   repeat first|(with_reducible first|apply wl_nil|apply qk_thn|apply wc_ret|apply qk_thn_ret|apply qk_in_ret)|((with_reducible apply ws);exact rfl;exact rfl)
   exact qk_ret1 rfl rfl ⟨_, rfl, hb, by simpa [counted] using ho⟩
  ·refine wc_yes rfl rfl ?_
   repeat (with_reducible first|apply wc_seq|apply wc_region)
   refine wl_lit tb_bytes rfl (ys := [0]) rfl rfl rfl rfl (fun w1 ho hb => ?_)
   repeat first|(with_reducible first|apply wl_nil|apply qk_thn|apply wc_ret|apply qk_thn_ret|apply qk_in_ret)|((with_reducible apply ws);exact rfl;exact rfl)
   exact qk_ret1 rfl rfl ⟨_, rfl, hb, by simpa [counted] using ho⟩
theorem fn_version (n most : Nat) (hn : n < 256) (hm : most < 32768) (w : World) : Fn 7 [.int .u8 (n : Int), .int .i64 (most : Int)] w fun v w' => w' = w ∧ v = .int .i64 ((n % (most + 1) : Nat) : Int) := by
 refine enter Tryz.func7 rfl Tryz.ntmps7 rfl ?_
 repeat first|(with_reducible first|apply wc_seq|apply wc_region|apply wl_nil|apply qk_thn)|((with_reducible apply ws);exact rfl;exact rfl)
 refine wl_conv .i64 rfl ti_u8 ti_i64 rfl (r := (n : Int)) (by rw [IntKind.wrap_i64]; omega) ?_
 repeat ((with_reducible apply ws);exact rfl;exact rfl)
 refine wl_add rfl rfl rfl (r := ((most + 1 : Nat) : Int)) (by rw [IntKind.wrap_i64]; omega) ?_
 refine wl_rem rfl rfl rfl (by omega) (by omega) (r := ((n % (most + 1) : Nat) : Int)) (by push_cast; rfl) ?_
 repeat first|(with_reducible first|apply wl_nil|apply qk_thn|apply wc_ret)|((with_reducible apply ws);exact rfl;exact rfl)
 exact qk_ret1 rfl rfl ⟨_, rfl, Below.refl _ _, rfl, rfl⟩
end
end Go.Proofs.YtgpnpfiafcakfaaGreat

namespace Go.Proofs.YtgpnpfiafcakfaaGreat
open Go Go.RowKit
theorem BytesAt.below {w w' : World} {v : Value} {ys : List UInt8} (h : BytesAt w v ys) (hb : Below w.heap.size w w') : BytesAt w' v ys := by
 rcases h with ⟨a, c, rfl, rfl⟩ | ⟨b, off, c, rfl, hc⟩
 ·exact .inl ⟨a, c, rfl, rfl⟩
 ·exact .inr ⟨b, off, c, rfl, hc.of_block (hb.block b hc.lt)⟩
theorem BytesAt.get {w : World} {v : Value} {ys : List UInt8} (h : BytesAt w v ys) {i : Nat} (hi : i < ys.length) : ∃ b off c, v = .slice (some ⟨b, off, none⟩) ys.length c ∧ w.cell? ⟨b, off + i * 1, none⟩ = some (.int .u8 (ys[i].toNat : Int)) := by
 rcases h with ⟨a, c, rfl, rfl⟩ | ⟨b, off, c, rfl, hc⟩
 ·simp at hi
 ·refine ⟨b, off, c, rfl, ?_⟩
  rw [Nat.mul_one]
  exact hc.cell (by simp [bv, hi])
theorem take_ne {xs ys : List UInt8} {i : Nat} (hx : i < xs.length) (hy : i < ys.length) (h : xs[i] ≠ ys[i]) : (xs == ys) = false := by
 rw [beq_eq_false_iff_ne]
 rintro rfl
 exact h rfl
theorem u8_ne {a b : UInt8} : ((a.toNat : Int) != (b.toNat : Int)) = (a != b) := by
 rw [Bool.eq_iff_iff]
 simp only [bne_iff_ne, ne_eq]
 rw [Int.ofNat_inj, UInt8.toNat_inj]
section
set_option maxRecDepth 100000
theorem fn_same (va vb : Value) (xs ys : List UInt8) (w : World) (ha : BytesAt w va xs) (hb : BytesAt w vb ys) (hx : xs.length ≤ lim) (hy : ys.length ≤ lim) :
  Fn 8 [va, vb] w fun v _ => v = .bool (xs == ys) := by
 simp only [lim] at hx hy
 obtain ⟨aa, ca, hva⟩ := ha.shape
 obtain ⟨ab, cb, hvb⟩ := hb.shape
 subst hva; subst hvb
 refine enter Tryz.func8 rfl Tryz.ntmps8 rfl ?_
 repeat first|(with_reducible first|apply wc_seq|apply wc_region|apply wl_nil|apply qk_thn)|((with_reducible apply ws);exact rfl;exact rfl)
 by_cases hl : xs.length = ys.length
 ·refine wc_no rfl (by simp [hl]) ?_
  repeat first|(with_reducible first|apply wc_seq|apply wc_region|apply wl_nil|apply qk_thn|apply wc_block|apply wc_skip)|((with_reducible apply ws);exact rfl;exact rfl)
  refine wc_loop (α := Nat) (fun i => [(13, .int .i64 (i : Int)), (12, .int .i64 (xs.length : Int)), (0, .slice aa xs.length ca), (1, .slice ab ys.length cb)]) (fun i w' => i ≤ xs.length ∧ xs.take i = ys.take i ∧ Below w.heap.size w w') (fun i => xs.length - i) 0 ⟨rfl, rfl, rfl, rfl, trivial⟩ ⟨by omega, rfl, Below.refl _ _⟩ ?_
  rintro i w1 ⟨hi, ht, hw⟩
  repeat first|(with_reducible first|apply wc_seq|apply wc_region|apply wl_nil|apply qk_thn)|((with_reducible apply ws);exact rfl;exact rfl)
  by_cases hlt : i < xs.length
  ·refine wc_yes rfl (by simpa using hlt) ?_
   repeat first|(with_reducible first|apply wc_seq|apply wc_region|apply wl_nil|apply qk_thn|apply wc_block|apply wc_skip)|((with_reducible apply ws);exact rfl;exact rfl)
   obtain ⟨b1, o1, c1, hv1, hc1⟩ := (ha.below hw).get hlt
   obtain ⟨b2, o2, c2, hv2, hc2⟩ := (hb.below hw).get (i := i) (by omega)
   simp only [Value.slice.injEq] at hv1 hv2
   obtain ⟨rfl, _, rfl⟩ := hv1
   obtain ⟨rfl, _, rfl⟩ := hv2
   refine wc_par [(0, .slice (some ⟨b1, o1, none⟩) xs.length ca), (1, .int .i64 (i : Int)), (2, .pointer (some ⟨b1, o1 + i * 1, none⟩)), (3, .int .u8 (xs[i].toNat : Int)), (4, .slice (some ⟨b2, o2, none⟩) ys.length cb), (5, .int .i64 (i : Int)), (6, .pointer (some ⟨b2, o2 + i * 1, none⟩)), (7, .int .u8 (ys[i].toNat : Int)), (8, .bool ((xs[i].toNat : Int) != (ys[i].toNat : Int)))] []
    (fun _ w' => Below w.heap.size w w' ∧ w'.cell? ⟨b1, o1 + i * 1, none⟩ = some (.int .u8 (xs[i].toNat : Int)) ∧ w'.cell? ⟨b2, o2 + i * 1, none⟩ = some (.int .u8 (ys[i].toNat : Int)))
    mixed rfl rfl rfl rfl rfl (by show ([0,1,2,3,4,5,6,7,8] : List Nat).Nodup; decide) rfl rfl (by decide) rfl rfl rfl rfl ⟨hw.drew, hc1, hc2⟩ ?_ trivial ?_
   ·intro p hp vals w' hC a k
    simp only [List.mem_cons, List.not_mem_nil, or_false] at hp
    rcases hp with rfl | rfl | rfl | rfl | rfl | rfl | rfl | rfl | rfl
    ·exact gv rfl rfl (rn_move k rfl)
    ·exact gv rfl rfl (rn_move k rfl)
    ·exact gv rfl rfl (rn_indexAddr k rfl rfl es_bytes hlt)
    ·exact gv rfl rfl (rn_load k rfl to_u8 hC.2.1)
    ·exact gv rfl rfl (rn_move k rfl)
    ·exact gv rfl rfl (rn_move k rfl)
    ·exact gv rfl rfl (rn_indexAddr k rfl rfl es_bytes (by omega))
    ·exact gv rfl rfl (rn_load k rfl to_u8 hC.2.2)
    ·exact gv rfl rfl (rn_neq k rfl rfl)
   ·rintro vals w' hvl ⟨hw', _, _⟩
    refine qk_thn ?_
    by_cases hne : xs[i] = ys[i]
    ·refine wc_no rfl (by rw [hne]; simp) ?_
     repeat (with_reducible first|apply wc_region|apply qk_thn|apply wc_skip|apply qk_in)
     refine wl_add rfl rfl rfl (r := ((i + 1 : Nat) : Int)) (by rw [IntKind.wrap_i64]; omega) ?_
     repeat first|(with_reducible apply wl_nil)|((with_reducible apply ws);exact rfl;exact rfl)
     refine qk_round (i + 1) ⟨rfl, rfl, rfl, rfl, trivial⟩ ⟨by omega, ?_, hw'⟩ (by omega)
     rw [List.take_succ_eq_append_getElem hlt, List.take_succ_eq_append_getElem (by omega), ht, hne]
    ·refine wc_yes rfl (by rw [u8_ne]; simpa using hne) ?_
     repeat first|(with_reducible first|apply wc_seq|apply wc_region|apply wl_nil|apply qk_thn|apply wc_ret|apply qk_thn_ret|apply qk_in_ret|apply qk_round_ret)|((with_reducible apply ws);exact rfl;exact rfl)
     exact qk_ret1 rfl rfl ⟨_, rfl, hw', by rw [take_ne hlt (by omega) hne]⟩
  ·refine wc_no rfl (by simpa using hlt) ?_
   repeat first|(with_reducible first|apply wc_seq|apply wc_region|apply wl_nil|apply qk_thn|apply wc_ret|apply wc_exit|apply qk_thn_exit|apply qk_in_exit|apply qk_round_exit)|((with_reducible apply ws);exact rfl;exact rfl)
   refine qk_ret1 rfl rfl ⟨_, rfl, hw, ?_⟩
   rw [List.take_of_length_le (by omega), List.take_of_length_le (by omega)] at ht
   simp [ht]
 ·refine wc_yes rfl (by simp; omega) ?_
  repeat first|(with_reducible first|apply wc_seq|apply wc_region|apply wl_nil|apply qk_thn|apply wc_ret|apply qk_thn_ret)|((with_reducible apply ws);exact rfl;exact rfl)
  refine qk_ret1 rfl rfl ⟨_, rfl, Below.refl _ _, ?_⟩
  have : (xs == ys) = false := by rw [beq_eq_false_iff_ne]; rintro rfl; exact hl rfl
  rw [this]
theorem known_snoc (fs : List Fld) (f : Fld) : known (fs ++ [f]) = if 0 ≤ f.tag then max (known fs) (f.tag.toNat + 1) else known fs := by simp [known]
theorem known_le {fs : List Fld} (h : ∀ f ∈ fs, f.tag < 2147483647) : known fs < 2147483648 := by
 have : ∀ (fs : List Fld) (m : Nat), m < 2147483648 → (∀ f ∈ fs, f.tag < 2147483647) → fs.foldl (fun n f => if 0 ≤ f.tag then max n (f.tag.toNat + 1) else n) m < 2147483648 := by
  intro fs
  induction fs with
  | nil => intro m hm _; simpa using hm
  | cons f fs ih =>
   intro m hm h
   simp only [List.foldl_cons]
   refine ih _ ?_ (fun g hg => h g (by simp [hg]))
   have := h f (by simp)
   split <;> omega
 exact this fs 0 (by omega) h
theorem fn_known (v : Value) (fs : List Fld) (B : Nat) (w : World) (hB : B ≤ w.heap.size) (h : Sq B w v (fs.map fldD)) (ht : ∀ f ∈ fs, f.tag < 2147483647) (hl : fs.length ≤ 1000000) :
  Fn 46 [v] w fun r _ => r = .int .u32 (known fs : Nat) := by
 obtain ⟨a, c, rfl, _⟩ := h.shape
 simp only [List.length_map] at *
 refine enter Tryz.func46 rfl Tryz.ntmps46 rfl ?_
 repeat first|(with_reducible first|apply wc_seq|apply wc_region|apply wl_nil|apply qk_thn|apply wc_block)|((with_reducible apply ws);exact rfl;exact rfl)
 refine wc_loop (α := Nat) (fun i => [(8, .int .i64 (i : Int)), (7, .int .i64 (fs.length : Int)), (6, .slice a fs.length c), (3, .int .u32 (known (fs.take i) : Nat))]) (fun i w' => i ≤ fs.length ∧ Below w.heap.size w w') (fun i => fs.length - i) 0 ⟨rfl, rfl, rfl, rfl, trivial⟩ ⟨by omega, Below.refl _ _⟩ ?_
 rintro i w1 ⟨hi, hw⟩
 repeat first|(with_reducible first|apply wc_seq|apply wc_region|apply wl_nil|apply qk_thn)|((with_reducible apply ws);exact rfl;exact rfl)
 by_cases hlt : i < fs.length
 ·refine wc_yes rfl (by simpa using hlt) ?_
  obtain ⟨b, off, c', cs, hv, _, hcs, hlen, hr⟩ := (h.below (hw.mono hB) (Nat.le_refl _)).get (sz := 8) (i := i) (by intro d hd; obtain ⟨x, _, rfl⟩ := List.mem_map.1 hd; exact fldD_width x) (by simpa using hlt)
  simp only [Value.slice.injEq, List.length_map] at hv
  obtain ⟨rfl, _, rfl⟩ := hv
  simp only [List.getElem_map] at hr
  obtain ⟨hone, _⟩ := fld_one hr
  have hti := ht fs[i] (by simp)
  have hkl := known_le (fs := fs.take i) (fun f hf => ht f (List.mem_of_mem_take hf))
  have hsn := known_snoc (fs.take i) fs[i]
  rw [← List.take_succ_eq_append_getElem hlt] at hsn
  obtain ⟨sv, hce, _⟩ := fld_cells hr
  subst hce
  repeat (with_reducible first|apply wc_seq|apply wc_region|apply qk_thn|apply wc_block|apply wc_skip)
  refine wl_indexAddr rfl rfl es_flds rfl hlt ?_
  refine wl_loadAgg (cs := [.int .i64 fs[i].kind, .int .i64 fs[i].fr, .int .i64 fs[i].upto, .int .i64 fs[i].nul, .int .i64 fs[i].tag, .int .i64 fs[i].df, .int .i64 fs[i].of, sv]) rfl ta_fld rfl (fun j v e => hcs.cell e) ?_
  refine wl_alloc zv_fld rfl rfl (fun w2 hb2 hg2 hs2 => ?_)
  refine wl_storeBAgg rfl rfl rfl tz_fld hone hb2 rfl (fun w3 hb3 hg3 hs3 => ?_)
  have hs1 := hw.size
  have hw3 : Below w.heap.size w w3 := (hw.trans (below_of hg2 hs1 (by simp))).trans (below_of hg3 (by omega) (by intro k hk; simp at hk; omega))
  repeat first|(with_reducible first|apply wc_seq|apply wc_region|apply wl_nil|apply qk_thn)|((with_reducible apply ws);exact rfl;exact rfl)
  refine wl_loadB rfl to_int rfl hb3 rfl ?_
  repeat first|(with_reducible first|apply wl_nil|apply qk_thn)|((with_reducible apply ws);exact rfl;exact rfl)
  by_cases htag : 0 ≤ fs[i].tag
  ·refine wc_yes rfl (by simpa using htag) ?_
   rw [if_pos htag] at hsn
   repeat first|(with_reducible apply wc_region)|((with_reducible apply ws);exact rfl;exact rfl)
   refine wl_loadB rfl to_int rfl hb3 rfl ?_
   refine wl_conv .u32 rfl ti_i64 ti_u32 rfl (r := fs[i].tag) (by rw [IntKind.wrap_u32]; omega) ?_
   refine wl_add rfl rfl rfl (r := fs[i].tag + 1) (by rw [IntKind.wrap_u32]; omega) ?_
   refine wl_max rfl rfl rfl (r := ((known (fs.take (i + 1)) : Nat) : Int)) (by rw [hsn]; split <;> omega) ?_
   repeat first|(with_reducible first|apply wc_region|apply wl_nil|apply qk_thn|apply qk_in)|((with_reducible apply ws);exact rfl;exact rfl)
   refine wl_add rfl rfl rfl (r := ((i + 1 : Nat) : Int)) (by rw [IntKind.wrap_i64]; omega) ?_
   repeat first|(with_reducible apply wl_nil)|((with_reducible apply ws);exact rfl;exact rfl)
   exact qk_round (i + 1) ⟨rfl, rfl, rfl, rfl, trivial⟩ ⟨by omega, hw3⟩ (by omega)
  ·refine wc_no rfl (by simpa using htag) ?_
   rw [if_neg htag] at hsn
   repeat (with_reducible first|apply wc_region|apply qk_thn|apply wc_skip|apply qk_in)
   refine wl_add rfl rfl rfl (r := ((i + 1 : Nat) : Int)) (by rw [IntKind.wrap_i64]; omega) ?_
   repeat first|(with_reducible apply wl_nil)|((with_reducible apply ws);exact rfl;exact rfl)
   exact qk_round (i + 1) ⟨rfl, rfl, rfl, by rw [hsn]; rfl, trivial⟩ ⟨by omega, hw3⟩ (by omega)
 ·refine wc_no rfl (by simpa using hlt) ?_
  repeat first|(with_reducible first|apply wc_seq|apply wc_region|apply wl_nil|apply qk_thn|apply wc_ret|apply wc_exit|apply qk_thn_exit|apply qk_in_exit|apply qk_round_exit)|((with_reducible apply ws);exact rfl;exact rfl)
  refine qk_ret1 rfl rfl ⟨_, rfl, hw, ?_⟩
  rw [List.take_of_length_le (by omega)]
end
end Go.Proofs.YtgpnpfiafcakfaaGreat

namespace Go.Proofs.YtgpnpfiafcakfaaGreat
open Go Go.RowKit
section
variable {P : Program} {N : Nat} {L : Sl} {a : Act} {w : World}
theorem gv_noU {ops : List Oper} {i j t : Nat} {o : Oper} {want : Bool} (ho : ops[i]? = some o) (hg : o.guard = some (j, want)) (hj : dstOf ops j = some t) (k : Kn N a L) (hb : lk L t = some undef) : Gives P ops i undef a w := by
  unfold Gives
  rw [ho]
  have h1 := k.at_ t _ hb
  have hy : yielded ops.toArray a.tmps j = none := by
    have hj' : (ops[j]?).bind (·.dst) = some t := hj
    simp only [yielded, List.getElem?_toArray, hj', Option.bind_some]
    simp only [gt, Array.getD_eq_getD_getElem?] at h1
    cases ht : a.tmps[t]? with
    | none => rfl
    | some v => rw [ht] at h1; simp at h1; subst h1; rfl
  exact .inr ⟨by simp [Region.wanted, hg, hy], rfl⟩
end
abbrev Tg : Type := (Nat × List UInt8) × Value
def tcells (qs : List Tg) : List Value := qs.flatMap fun q => [.int .u32 q.1.1, q.2]
theorem tcells_append (a b : List Tg) : tcells (a ++ b) = tcells a ++ tcells b := by simp [tcells]
theorem tcells_cons (q : Tg) (b : List Tg) : tcells (q :: b) = [.int .u32 q.1.1, q.2] ++ tcells b := by simp [tcells]
theorem tcells_length (a : List Tg) : (tcells a).length = a.length * 2 := by
  induction a with
  | nil => rfl
  | cons q a ih => rw [tcells_cons]; simp only [List.length_append, ih, List.length_cons, List.length_nil]; omega
theorem tcells_split (qs : List Tg) {j : Nat} (hj : j < qs.length) : tcells qs = tcells (qs.take j) ++ ([.int .u32 qs[j].1.1, qs[j].2] ++ tcells (qs.drop (j + 1))) := by
  rw [← tcells_cons, ← tcells_append, List.getElem_cons_drop, List.take_append_drop]
theorem tcells_at {w : World} {g : Nat} {qs : List Tg} (h : CellsAt w g 0 (tcells qs)) {j : Nat} (hj : j < qs.length) : CellsAt w g (0 + j * 2) [.int .u32 qs[j].1.1, qs[j].2] := by
  rw [tcells_split qs hj] at h
  have := h.part
  rwa [tcells_length, List.length_take, Nat.min_eq_left (by omega)] at this
theorem tcells_set (qs : List Tg) {j : Nat} (hj : j < qs.length) (q : Tg) : (tcells qs).take (j * 2) ++ [.int .u32 q.1.1, q.2] ++ (tcells qs).drop (j * 2 + 2) = tcells (qs.set j q) := by
  have e1 : (tcells (qs.take j)).length = j * 2 := by rw [tcells_length, List.length_take, Nat.min_eq_left (by omega)]
  rw [tcells_split qs hj, List.set_eq_take_append_cons_drop, if_pos hj, tcells_append, tcells_cons]
  rw [List.take_append_of_le_length (by omega), List.take_of_length_le (by omega), ← List.append_assoc, List.drop_append_of_le_length (by simp [e1])]
  rw [List.drop_of_length_le (by simp [e1])]
  simp
theorem tcells_reps {B : Nat} {w : World} : ∀ (qs : List Tg), (∀ q ∈ qs, Sq B w q.2 (q.1.2.map byteD)) → Reps (Lo B) w (qs.map fun q => tagD q.1) (tcells qs)
  | [], _ => by simp [tcells, Reps]
  | q :: qs, h => by
    rw [tcells_cons, List.map_cons]
    simp only [Reps]
    refine ⟨_, _, rfl, ?_, tcells_reps qs (fun x hx => h x (by simp [hx]))⟩
    have h1 := h q (by simp)
    simp only [Sq] at h1
    simp only [tagD, Rep, Reps, bytesD]
    refine ⟨[_], [q.2], rfl, rfl, [q.2], [], rfl, ?_, rfl⟩
    simpa [Rep] using h1
theorem putTag_at (k : Nat) (v : List UInt8) : ∀ (l : List (Nat × List UInt8)) (j : Nat) (_ : j ≤ l.length), (∀ q (h : q < l.length), q < j → l[q].1 < k) → (∀ h : j < l.length, ¬ l[j].1 < k) →
    putTag k v l = if (∃ h : j < l.length, l[j].1 = k) then l else l.take j ++ (k, v) :: l.drop j
  | [], j, hj, _, _ => by
    have : j = 0 := by simpa using hj
    subst this; simp [putTag]
  | kv :: r, 0, _, _, h2 => by
    have := h2 (by simp)
    simp only [List.getElem_cons_zero] at this
    simp only [putTag, if_neg this, List.length_cons, List.getElem_cons_zero, List.take_zero, List.drop_zero, List.nil_append]
    by_cases he : kv.1 = k <;> simp [he]
  | kv :: r, j + 1, hj, h1, h2 => by
    have h0 := h1 0 (by simp) (by omega)
    simp only [List.getElem_cons_zero] at h0
    have ih := putTag_at k v r j (by simpa using hj) (fun q h hq => h1 (q + 1) (Nat.succ_lt_succ h) (Nat.succ_lt_succ hq)) (fun h => h2 (Nat.succ_lt_succ h))
    simp only [putTag, if_pos h0, ih, List.length_cons, List.getElem_cons_succ, Nat.add_lt_add_iff_right, List.take_succ_cons, List.drop_succ_cons]
    split <;> simp
def step (least : Nat) (out : List (Nat × List UInt8)) (kv : Nat × List UInt8) : List (Nat × List UInt8) := if kv.1 < least then out else putTag kv.1 kv.2 out
theorem putTag_length (k : Nat) (v : List UInt8) (l : List (Nat × List UInt8)) : (putTag k v l).length ≤ l.length + 1 := by
  induction l with
  | nil => simp [putTag]
  | cons a l ih => simp only [putTag]; split; · simp; omega
                   · split <;> simp
theorem step_fold_snoc (least : Nat) (u : List (Nat × List UInt8)) {i : Nat} (hi : i < u.length) : (u.take (i + 1)).foldl (step least) [] = step least ((u.take i).foldl (step least) []) u[i] := by
  rw [List.take_succ_eq_append_getElem hi, List.foldl_append]; rfl
theorem step_fold_length (least : Nat) : ∀ (u out : List (Nat × List UInt8)), (u.foldl (step least) out).length ≤ out.length + u.length
  | [], out => by simp
  | kv :: u, out => by
    have h1 := step_fold_length least u (step least out kv)
    have h2 : (step least out kv).length ≤ out.length + 1 := by
      unfold step; split
      · omega
      · exact putTag_length _ _ _
    simp only [List.foldl_cons, List.length_cons]; omega
structure UkS where
  i : Nat
  d : Value
  qs : List Tg
structure UkI (B : Nat) (w : World) (N0 tt least : Nat) (u : List (Nat × List UInt8)) (x : UkS) (w' : World) : Prop where
  le : x.i ≤ min u.length Most
  below : Below w.heap.size w w'
  row : w'.ownsRow N0 tt 2 x.d x.qs.length (tcells x.qs)
  says : x.qs.map (·.1) = (u.take x.i).foldl (step least) []
  at_ : ∀ q ∈ x.qs, Sq B w q.2 (q.1.2.map byteD)
theorem tg_len {qs : List Tg} {l : List (Nat × List UInt8)} (h : qs.map (·.1) = l) : l.length = qs.length := by rw [← h]; simp
theorem tg_get {qs : List Tg} {l : List (Nat × List UInt8)} (h : qs.map (·.1) = l) {j : Nat} (hj : j < qs.length) (hl : j < l.length) : l[j] = qs[j].1 := by subst h; simp
theorem shift_end (qs : List Tg) (x q : Tg) {j : Nat} (hj : j ≤ qs.length) : (qs.take j ++ x :: qs.drop j).set j q = qs.take j ++ q :: qs.drop j := by
  rw [List.set_append_right _ _ (by simp; omega)]
  have : j - (qs.take j).length = 0 := by simp; omega
  rw [this]; rfl
theorem shift_step (qs : List Tg) (x : Tg) {k : Nat} (hk : k + 1 ≤ qs.length) : (qs.take (k + 1) ++ x :: qs.drop (k + 1)).set (k + 1) qs[k] = qs.take k ++ qs[k] :: qs.drop k := by
  rw [shift_end qs x _ hk, List.take_succ_eq_append_getElem (by omega), List.append_assoc]
  congr 1
  simp only [List.singleton_append]
  rw [List.getElem_cons_drop]
theorem Row.kept {w w' : World} {B e sz : Nat} {d : Value} {n : Nat} {xs : List Value} {row : Option Nat} (h : w.ownsRow B e sz d n xs) (hg : w.grownBy w' row) (hne : ∀ g, d.ownBlock = some g → row ≠ some g) : w'.ownsRow B e sz d n xs := by
  refine World.ownsRow.kept h hg ?_
  cases hd : d.ownBlock with
  | none => exact .inl rfl
  | some g => exact .inr (fun e => hne g hd e.symm)
section
set_option maxRecDepth 100000
theorem fn_unknownR (fv uv : Value) (fs : List Fld) (u : List (Nat × List UInt8)) (B : Nat) (w : World) (hB : B ≤ w.heap.size) (hf : Sq B w fv (fs.map fldD)) (hu : Sq B w uv (u.map tagD)) (ht : ∀ f ∈ fs, f.tag < 2147483647) (hl : fs.length ≤ 1000000) :
    Fn 22 [fv, uv] w fun r w' => ∃ qs : List Tg, w'.ownsRow w.heap.size 64 2 r qs.length (tcells qs) ∧ qs.map (·.1) = unknown fs u ∧ ∀ q ∈ qs, Sq B w q.2 (q.1.2.map byteD) := by
  obtain ⟨au, cu, rfl, hcu⟩ := hu.shape
  simp only [List.length_map] at *
  have hkn := known_le ht
  refine enter Tryz.func22 rfl Tryz.ntmps22 rfl ?_
  repeat first|(with_reducible first|apply wc_seq|apply wc_region|apply wl_nil|apply qk_thn)|((with_reducible apply ws);exact rfl;exact rfl)
  refine wl_call rfl (by kernel_rfl) rfl ((fn_known fv fs B w hB hf ht hl).mono ?_)
  rintro e w0 ⟨v, rfl, hw0, rfl⟩
  refine ⟨_, rfl, ?_⟩
  repeat first|(with_reducible first|apply wc_seq|apply wc_region|apply wl_nil|apply qk_thn)|((with_reducible apply ws);exact rfl;exact rfl)
  refine wl_min rfl rfl rfl (min_if u.length) ?_
  refine wl_sliceHi rfl rfl el_tags rfl (by omega) ?_
  repeat first|(with_reducible first|apply wl_nil|apply qk_thn|apply wc_block)|((with_reducible apply ws);exact rfl;exact rfl)
  refine wc_loop (α := UkS) (fun x => [(19, .int .i64 (x.i : Int)), (18, .int .i64 ((min u.length Most : Nat) : Int)), (17, .slice au (min u.length Most) cu), (6, x.d), (5, .int .u32 (known fs : Nat))]) (UkI B w w.heap.size 64 (known fs) u) (fun x => min u.length Most - x.i) ⟨0, .slice none 0 0, []⟩ ⟨rfl, rfl, rfl, rfl, rfl, trivial⟩ ⟨Nat.zero_le _, hw0, World.ownsRow_nil _ _ _ _, rfl, by simp⟩ ?_
  rintro ⟨i, d, qs⟩ w1 ⟨hi, hw1, hrow, hsay, hat⟩
  simp only [] at hi hrow hsay hat
  change WC _ _ _ _ [(19, .int .i64 (i : Int)), (18, .int .i64 ((min u.length Most : Nat) : Int)), (17, .slice au (min u.length Most) cu), (6, d), (5, .int .u32 (known fs : Nat))] _
  have hqn : qs.length ≤ 32767 := by
    rw [← tg_len hsay]
    have := step_fold_length (known fs) (u.take i) []
    simp only [List.length_nil, List.length_take, Nat.zero_add] at this
    simp only [Most] at hi; omega
  repeat first|(with_reducible first|apply wc_seq|apply wc_region|apply wl_nil|apply qk_thn)|((with_reducible apply ws);exact rfl;exact rfl)
  by_cases hlt : i < min u.length Most
  · refine wc_yes rfl (by simpa using hlt) ?_
    have hi32 : i < 32767 := Nat.lt_of_lt_of_le hlt (Nat.min_le_right u.length Most)
    have hiu : i < u.length := by omega
    have hsn := step_fold_snoc (known fs) u hiu
    obtain ⟨b, off, c', cs, hv, _, hcs, hlen, hr⟩ := (hu.below (hw1.mono hB) (Nat.le_refl _)).get (sz := 2) (i := i) (by intro d hd; obtain ⟨x, _, rfl⟩ := List.mem_map.1 hd; exact tagD_width x) (by simpa using hiu)
    simp only [Value.slice.injEq, List.length_map] at hv
    obtain ⟨rfl, _, rfl⟩ := hv
    simp only [List.getElem_map] at hr
    obtain ⟨hone, _⟩ := tag_one hr
    obtain ⟨sv, hce, hsv1⟩ := tag_cells hr
    subst hce
    have hsv : Sq B w sv (u[i].2.map byteD) := by
      obtain ⟨b2, off2, c2, cs2, hv2, _, hcs2, hlen2, hr2⟩ := hu.get (sz := 2) (i := i) (by intro d hd; obtain ⟨x, _, rfl⟩ := List.mem_map.1 hd; exact tagD_width x) (by simpa using hiu)
      simp only [Value.slice.injEq, Option.some.injEq, Addr.mk.injEq, and_true] at hv2
      obtain ⟨⟨rfl, rfl⟩, _, _⟩ := hv2
      simp only [List.getElem_map] at hr2
      obtain ⟨sv2, hce2, hsv2⟩ := tag_cells hr2
      subst hce2
      have hb1 := hw1.mono hB
      have e1 := hcs.cell (i := 1) (v := sv) rfl
      have e2 := (hcs2.of_block (hb1.block b (by assumption))).cell (i := 1) (v := sv2) rfl
      rw [e1] at e2; cases e2
      exact hsv2
    repeat (with_reducible first|apply wc_seq|apply wc_region|apply qk_thn|apply wc_block|apply wc_skip)
    refine wl_indexAddr rfl rfl es_tags rfl hlt ?_
    refine wl_loadAgg (cs := [.int .u32 u[i].1, sv]) rfl ta_tag rfl (fun j v e => hcs.cell e) ?_
    refine wl_alloc zv_tag rfl rfl (fun w2 hb2 hg2 hs2 => ?_)
    refine wl_storeBAgg (vs := [.int .u32 u[i].1, sv]) rfl rfl rfl tz_tag hone hb2 rfl (fun w3 hb3 hg3 hs3 => ?_)
    have hs1 := hw1.size
    have hw3 : Below w.heap.size w w3 := (hw1.trans (below_of hg2 hs1 (by simp))).trans (below_of hg3 (by omega) (by intro k hk; simp at hk; omega))
    have hdlt : ∀ g, d.ownBlock = some g → w.heap.size ≤ g ∧ g < w1.heap.size := fun g hg => World.ownsRow.lt hrow g hg
    have hrow3 : w3.ownsRow w.heap.size 64 2 d qs.length (tcells qs) :=
      Row.kept (Row.kept hrow hg2 (fun g _ => by simp)) hg3 (fun g hg e => by have := hdlt g hg; simp at e; omega)
    refine wl_nil (qk_thn (wc_seq (wc_region ?_)))
    repeat ((with_reducible apply ws);exact rfl;exact rfl)
    refine wl_nil (qk_thn ?_)
    refine wc_cut (α := Nat) (fun j => [(19, .int .i64 (i : Int)), (18, .int .i64 ((min u.length Most : Nat) : Int)), (17, .slice (some ⟨b, off, none⟩) (min u.length Most) cu), (9, .int .i64 (j : Int)), (8, .pointer (some ⟨w1.heap.size, 0, none⟩)), (6, d), (5, .int .u32 (known fs : Nat))])
      (fun j w' => j ≤ qs.length ∧ (∀ q (h : q < qs.length), q < j → qs[q].1.1 < u[i].1) ∧ (∀ h : j < qs.length, ¬ qs[j].1.1 < u[i].1) ∧ Below w.heap.size w w' ∧ w'.ownsRow w.heap.size 64 2 d qs.length (tcells qs) ∧ Box w' w1.heap.size [.int .u32 u[i].1, sv] 64) ?_ ?_
    · repeat (with_reducible apply wc_block)
      refine wc_loop (α := Nat) (fun j => [(19, .int .i64 (i : Int)), (18, .int .i64 ((min u.length Most : Nat) : Int)), (17, .slice (some ⟨b, off, none⟩) (min u.length Most) cu), (9, .int .i64 (j : Int)), (8, .pointer (some ⟨w1.heap.size, 0, none⟩)), (6, d), (5, .int .u32 (known fs : Nat))])
        (fun j w' => j ≤ qs.length ∧ (∀ q (h : q < qs.length), q < j → qs[q].1.1 < u[i].1) ∧ Below w.heap.size w w' ∧ w'.ownsRow w.heap.size 64 2 d qs.length (tcells qs) ∧ Box w' w1.heap.size [.int .u32 u[i].1, sv] 64) (fun j => qs.length - j) 0 ⟨rfl, rfl, rfl, rfl, rfl, rfl, rfl, trivial⟩ ⟨Nat.zero_le _, by omega, hw3, hrow3, hb3⟩ ?_
      rintro j w4 ⟨hj, hbef, hw4, hrow4, hb4⟩
      repeat (with_reducible apply wc_seq)
      obtain ⟨ad, cd, hde⟩ := Row.shape hrow4
      subst hde
      by_cases hjl : j < qs.length
      · obtain ⟨g, cap, hde, hg1, hg2', hca⟩ := Row.cells hrow4 (by omega)
        simp only [Value.slice.injEq, true_and] at hde
        obtain ⟨rfl, rfl⟩ := hde
        have hcj := tcells_at hca hjl
        refine wc_par [(0, .int .i64 (j : Int)), (1, .slice (some ⟨g, 0, none⟩) qs.length cd), (2, .int .i64 (qs.length : Int)), (3, .bool (decide ((j : Int) < (qs.length : Int)))), (4, .bool (decide ((j : Int) < (qs.length : Int)))), (5, .slice (some ⟨g, 0, none⟩) qs.length cd), (6, .int .i64 (j : Int)), (7, .pointer (some ⟨g, 0 + j * 2, none⟩)), (8, .pointer (some ⟨g, 0 + j * 2 + 0, none⟩)), (9, .int .u32 (qs[j].1.1 : Nat)), (10, .pointer (some ⟨w1.heap.size, 0 + 0, none⟩)), (11, .int .u32 (u[i].1 : Nat)), (12, .bool (decide ((qs[j].1.1 : Int) < (u[i].1 : Int)))), (13, .bool (decide ((qs[j].1.1 : Int) < (u[i].1 : Int))))] []
          (fun _ w' => w' = w4.drew)
          mixed rfl rfl rfl rfl rfl (by show ([0,1,2,3,4,5,6,7,8,9,10,11,12,13] : List Nat).Nodup; decide) rfl rfl (by decide) rfl rfl rfl rfl rfl ?_ trivial ?_
        · intro p hp vals w' hC a k
          subst hC
          simp only [List.mem_cons, List.not_mem_nil, or_false] at hp
          have ht4 : decide ((j : Int) < (qs.length : Int)) = true := by simpa using hjl
          rcases hp with rfl | rfl | rfl | rfl | rfl | rfl | rfl | rfl | rfl | rfl | rfl | rfl | rfl | rfl
          · exact gv rfl rfl (rn_move k rfl)
          · exact gv rfl rfl (rn_move k rfl)
          · exact gv rfl rfl (rn_len k rfl el_tags)
          · exact gv rfl rfl (rn_lss k rfl rfl)
          · exact gv rfl rfl (rn_move k rfl)
          · exact gv_yes rfl rfl rfl k rfl (by rw [ht4]; rfl) (rn_move k rfl)
          · exact gv_yes rfl rfl rfl k rfl (by rw [ht4]; rfl) (rn_move k rfl)
          · exact gv_yes rfl rfl rfl k rfl (by rw [ht4]; rfl) (rn_indexAddr k rfl rfl es_tags hjl)
          · exact gv_yes rfl rfl rfl k rfl (by rw [ht4]; rfl) (rn_fieldAddr k rfl fo_tag0)
          · exact gv_yes rfl rfl rfl k rfl (by rw [ht4]; rfl) (rn_load k rfl to_u32 (hcj.cell (i := 0) rfl))
          · exact gv_yes rfl rfl rfl k rfl (by rw [ht4]; rfl) (rn_fieldAddr k rfl fo_tag0)
          · exact gv_yes rfl rfl rfl k rfl (by rw [ht4]; rfl) (rn_load k rfl to_u32 (hb4.cell0 (i := 0) rfl))
          · exact gv_yes rfl rfl rfl k rfl (by rw [ht4]; rfl) (rn_lss k rfl rfl)
          · exact gv rfl rfl (rn_pick k rfl (by rw [ht4]; rfl))
        · rintro vals w5 hvl rfl
          refine qk_thn ?_
          by_cases hle : qs[j].1.1 < u[i].1
          · refine wc_yes rfl (by simpa using hle) ?_
            repeat first|(with_reducible first|apply wc_region|apply qk_thn|apply wc_block|apply wc_skip)|((with_reducible apply ws);exact rfl;exact rfl)
            refine wl_add rfl rfl rfl (r := ((j + 1 : Nat) : Int)) (by rw [IntKind.wrap_i64]; omega) ?_
            repeat first|(with_reducible first|apply wl_nil|apply qk_in)|((with_reducible apply ws);exact rfl;exact rfl)
            refine qk_round (j + 1) ⟨rfl, rfl, rfl, rfl, rfl, rfl, rfl, trivial⟩ ⟨by omega, ?_, hw4.drew, hrow4, hb4⟩ (by omega)
            intro q hq hqj
            by_cases hqe : q = j
            · subst hqe; exact hle
            · exact hbef q hq (by omega)
          · refine wc_no rfl (by simpa using hle) ?_
            repeat (with_reducible first|apply wc_exit|apply qk_thn_exit|apply qk_in_exit|apply qk_round_exit)
            exact qk_cut j ⟨rfl, rfl, rfl, rfl, rfl, rfl, rfl, trivial⟩ ⟨hj, hbef, fun _ => hle, hw4.drew, hrow4, hb4⟩
      · have hjn : j = qs.length := by omega
        have ht4 : decide ((j : Int) < (qs.length : Int)) = false := by simpa using hjl
        refine wc_par [(0, .int .i64 (j : Int)), (1, .slice ad qs.length cd), (2, .int .i64 (qs.length : Int)), (3, .bool (decide ((j : Int) < (qs.length : Int)))), (4, .bool (decide ((j : Int) < (qs.length : Int)))), (5, undef), (6, undef), (7, undef), (8, undef), (9, undef), (10, undef), (11, undef), (12, undef), (13, .bool false)] []
          (fun _ w' => w' = w4.drew)
          mixed rfl rfl rfl rfl rfl (by show ([0,1,2,3,4,5,6,7,8,9,10,11,12,13] : List Nat).Nodup; decide) rfl rfl (by decide) rfl rfl rfl rfl rfl ?_ trivial ?_
        · intro p hp vals w' hC a k
          subst hC
          simp only [List.mem_cons, List.not_mem_nil, or_false] at hp
          rcases hp with rfl | rfl | rfl | rfl | rfl | rfl | rfl | rfl | rfl | rfl | rfl | rfl | rfl | rfl
          · exact gv rfl rfl (rn_move k rfl)
          · exact gv rfl rfl (rn_move k rfl)
          · exact gv rfl rfl (rn_len k rfl el_tags)
          · exact gv rfl rfl (rn_lss k rfl rfl)
          · exact gv rfl rfl (rn_move k rfl)
          iterate 8 (exact gv_no rfl rfl rfl k rfl (by rw [ht4]; rfl))
          · exact gv rfl rfl (rn_pick k rfl (by rw [ht4]; rfl))
        · rintro vals w5 hvl rfl
          refine qk_thn ?_
          refine wc_no rfl rfl ?_
          repeat (with_reducible first|apply wc_exit|apply qk_thn_exit|apply qk_in_exit|apply qk_round_exit)
          exact qk_cut j ⟨rfl, rfl, rfl, rfl, rfl, rfl, rfl, trivial⟩ ⟨hj, hbef, fun h => absurd h hjl, hw4.drew, hrow4, hb4⟩
    rintro j w4 ⟨hj, hbef, hnot, hw4, hrow4, hb4⟩
    obtain ⟨ad, cd, hde⟩ := Row.shape hrow4
    subst hde
    have hjl' : j ≤ ((u.take i).foldl (step (known fs)) []).length := by rw [tg_len hsay]; exact hj
    have hput := putTag_at u[i].1 u[i].2 ((u.take i).foldl (step (known fs)) []) j hjl'
      (fun q hq hqj => by rw [tg_get hsay (by rw [← tg_len hsay]; exact hq) hq]; exact hbef q _ hqj)
      (fun h => by rw [tg_get hsay (by rw [← tg_len hsay]; exact h) h]; exact hnot _)
    refine wc_cut (α := Unit) (fun _ => [(19, .int .i64 (i : Int)), (18, .int .i64 ((min u.length Most : Nat) : Int)), (17, .slice (some ⟨b, off, none⟩) (min u.length Most) cu), (9, .int .i64 (j : Int)), (8, .pointer (some ⟨w1.heap.size, 0, none⟩)), (6, .slice ad qs.length cd), (5, .int .u32 (known fs : Nat))])
      (fun _ w' => known fs ≤ u[i].1 ∧ (∀ h : j < qs.length, qs[j].1.1 ≠ u[i].1) ∧ w' = w4.drew) ?_ ?_
    · refine wc_seq ?_
      by_cases hk : u[i].1 < known fs
      · have ht4 : decide ((u[i].1 : Int) < (known fs : Int)) = true := by simpa using hk
        refine wc_par [(0, .pointer (some ⟨w1.heap.size, 0 + 0, none⟩)), (1, .int .u32 (u[i].1 : Nat)), (2, .int .u32 (known fs : Nat)), (3, .bool (decide ((u[i].1 : Int) < (known fs : Int)))), (4, .bool (decide ((u[i].1 : Int) < (known fs : Int)))), (5, undef), (6, undef), (7, undef), (8, undef), (9, undef), (10, undef), (11, undef), (12, undef), (13, undef), (14, undef), (15, undef), (16, undef), (17, undef), (18, undef), (19, .bool true)] []
          (fun _ w' => w' = w4.drew) mixed rfl rfl rfl rfl rfl (by show ([0,1,2,3,4,5,6,7,8,9,10,11,12,13,14,15,16,17,18,19] : List Nat).Nodup; decide) rfl rfl (by decide) rfl rfl rfl rfl rfl ?_ trivial ?_
        · intro p hp vals w' hC a k
          subst hC
          simp only [List.mem_cons, List.not_mem_nil, or_false] at hp
          rcases hp with rfl | rfl | rfl | rfl | rfl | rfl | rfl | rfl | rfl | rfl | rfl | rfl | rfl | rfl | rfl | rfl | rfl | rfl | rfl | rfl
          · exact gv rfl rfl (rn_fieldAddr k rfl fo_tag0)
          · exact gv rfl rfl (rn_load k rfl to_u32 (hb4.cell0 (i := 0) rfl))
          · exact gv rfl rfl (rn_move k rfl)
          · exact gv rfl rfl (rn_lss k rfl rfl)
          · exact gv rfl rfl (rn_move k rfl)
          iterate 5 (exact gv_no rfl rfl rfl k rfl (by rw [ht4]; rfl))
          iterate 8 (exact gv_noU rfl rfl rfl k rfl)
          · exact gv_no rfl rfl rfl k rfl (by rw [ht4]; rfl)
          · exact gv rfl rfl (rn_pick k rfl (by rw [ht4]; rfl))
        · rintro vals w5 hvl rfl
          refine qk_thn ?_
          refine wc_yes rfl rfl ?_
          repeat (with_reducible first|apply wc_region|apply qk_thn|apply wc_exit|apply qk_in_exit|apply qk_round_exit)
          refine wl_add rfl rfl rfl (r := ((i + 1 : Nat) : Int)) (by rw [IntKind.wrap_i64]; omega) ?_
          repeat first|(with_reducible apply wl_nil)|((with_reducible apply ws);exact rfl;exact rfl)
          refine qk_round ⟨i + 1, .slice ad qs.length cd, qs⟩ ⟨rfl, rfl, rfl, rfl, rfl, trivial⟩ ⟨by simp only []; omega, hw4.drew, hrow4, ?_, hat⟩ (by simp only []; omega)
          rw [hsay, hsn, step, if_pos hk]
      · have ht4 : decide ((u[i].1 : Int) < (known fs : Int)) = false := by simpa using hk
        by_cases hjl : j < qs.length
        · obtain ⟨g, cap, hde, hg1, hg2', hca⟩ := Row.cells hrow4 (by omega)
          simp only [Value.slice.injEq, true_and] at hde
          obtain ⟨rfl, rfl⟩ := hde
          have hcj := tcells_at hca hjl
          have ht8 : decide ((j : Int) < (qs.length : Int)) = true := by simpa using hjl
          refine wc_par [(0, .pointer (some ⟨w1.heap.size, 0 + 0, none⟩)), (1, .int .u32 (u[i].1 : Nat)), (2, .int .u32 (known fs : Nat)), (3, .bool (decide ((u[i].1 : Int) < (known fs : Int)))), (4, .bool (decide ((u[i].1 : Int) < (known fs : Int)))), (5, .int .i64 (j : Int)), (6, .slice (some ⟨g, 0, none⟩) qs.length cd), (7, .int .i64 (qs.length : Int)), (8, .bool (decide ((j : Int) < (qs.length : Int)))), (9, .bool (decide ((j : Int) < (qs.length : Int)))), (10, .slice (some ⟨g, 0, none⟩) qs.length cd), (11, .int .i64 (j : Int)), (12, .pointer (some ⟨g, 0 + j * 2, none⟩)), (13, .pointer (some ⟨g, 0 + j * 2 + 0, none⟩)), (14, .int .u32 (qs[j].1.1 : Nat)), (15, .pointer (some ⟨w1.heap.size, 0 + 0, none⟩)), (16, .int .u32 (u[i].1 : Nat)), (17, .bool ((qs[j].1.1 : Int) == (u[i].1 : Int))), (18, .bool ((qs[j].1.1 : Int) == (u[i].1 : Int))), (19, .bool ((qs[j].1.1 : Int) == (u[i].1 : Int)))] []
            (fun _ w' => w' = w4.drew) mixed rfl rfl rfl rfl rfl (by show ([0,1,2,3,4,5,6,7,8,9,10,11,12,13,14,15,16,17,18,19] : List Nat).Nodup; decide) rfl rfl (by decide) rfl rfl rfl rfl rfl ?_ trivial ?_
          · intro p hp vals w' hC a k
            subst hC
            simp only [List.mem_cons, List.not_mem_nil, or_false] at hp
            rcases hp with rfl | rfl | rfl | rfl | rfl | rfl | rfl | rfl | rfl | rfl | rfl | rfl | rfl | rfl | rfl | rfl | rfl | rfl | rfl | rfl
            · exact gv rfl rfl (rn_fieldAddr k rfl fo_tag0)
            · exact gv rfl rfl (rn_load k rfl to_u32 (hb4.cell0 (i := 0) rfl))
            · exact gv rfl rfl (rn_move k rfl)
            · exact gv rfl rfl (rn_lss k rfl rfl)
            · exact gv rfl rfl (rn_move k rfl)
            · exact gv_yes rfl rfl rfl k rfl (by rw [ht4]; rfl) (rn_move k rfl)
            · exact gv_yes rfl rfl rfl k rfl (by rw [ht4]; rfl) (rn_move k rfl)
            · exact gv_yes rfl rfl rfl k rfl (by rw [ht4]; rfl) (rn_len k rfl el_tags)
            · exact gv_yes rfl rfl rfl k rfl (by rw [ht4]; rfl) (rn_lss k rfl rfl)
            · exact gv_yes rfl rfl rfl k rfl (by rw [ht4]; rfl) (rn_move k rfl)
            · exact gv_yes rfl rfl rfl k rfl (by rw [ht8]; rfl) (rn_move k rfl)
            · exact gv_yes rfl rfl rfl k rfl (by rw [ht8]; rfl) (rn_move k rfl)
            · exact gv_yes rfl rfl rfl k rfl (by rw [ht8]; rfl) (rn_indexAddr k rfl rfl es_tags hjl)
            · exact gv_yes rfl rfl rfl k rfl (by rw [ht8]; rfl) (rn_fieldAddr k rfl fo_tag0)
            · exact gv_yes rfl rfl rfl k rfl (by rw [ht8]; rfl) (rn_load k rfl to_u32 (hcj.cell (i := 0) rfl))
            · exact gv_yes rfl rfl rfl k rfl (by rw [ht8]; rfl) (rn_fieldAddr k rfl fo_tag0)
            · exact gv_yes rfl rfl rfl k rfl (by rw [ht8]; rfl) (rn_load k rfl to_u32 (hb4.cell0 (i := 0) rfl))
            · exact gv_yes rfl rfl rfl k rfl (by rw [ht8]; rfl) (rn_eql k rfl rfl)
            · exact gv_yes rfl rfl rfl k rfl (by rw [ht4]; rfl) (rn_pick k rfl (by rw [ht8]; rfl))
            · exact gv rfl rfl (rn_pick k rfl (by rw [ht4]; rfl))
          · rintro vals w5 hvl rfl
            refine qk_thn ?_
            by_cases hq : qs[j].1.1 = u[i].1
            · refine wc_yes rfl (by simp [hq]) ?_
              repeat (with_reducible first|apply wc_region|apply qk_thn|apply wc_exit|apply qk_in_exit|apply qk_round_exit)
              refine wl_add rfl rfl rfl (r := ((i + 1 : Nat) : Int)) (by rw [IntKind.wrap_i64]; omega) ?_
              repeat first|(with_reducible apply wl_nil)|((with_reducible apply ws);exact rfl;exact rfl)
              refine qk_round ⟨i + 1, .slice (some ⟨g, 0, none⟩) qs.length cd, qs⟩ ⟨rfl, rfl, rfl, rfl, rfl, trivial⟩ ⟨by simp only []; omega, hw4.drew, hrow4, ?_, hat⟩ (by simp only []; omega)
              rw [hsn, step, if_neg hk, hput, if_pos, hsay]
              have hjl2 : j < ((u.take i).foldl (step (known fs)) []).length := by rw [tg_len hsay]; exact hjl
              exact ⟨hjl2, by rw [tg_get hsay hjl hjl2]; exact hq⟩
            · refine wc_no rfl (by simp only [beq_eq_false_iff_ne]; omega) ?_
              repeat (with_reducible apply wc_skip)
              exact qk_cut () ⟨rfl, rfl, rfl, rfl, rfl, rfl, rfl, trivial⟩ ⟨by omega, fun _ => hq, rfl⟩
        · have ht8 : decide ((j : Int) < (qs.length : Int)) = false := by simpa using hjl
          refine wc_par [(0, .pointer (some ⟨w1.heap.size, 0 + 0, none⟩)), (1, .int .u32 (u[i].1 : Nat)), (2, .int .u32 (known fs : Nat)), (3, .bool (decide ((u[i].1 : Int) < (known fs : Int)))), (4, .bool (decide ((u[i].1 : Int) < (known fs : Int)))), (5, .int .i64 (j : Int)), (6, .slice ad qs.length cd), (7, .int .i64 (qs.length : Int)), (8, .bool (decide ((j : Int) < (qs.length : Int)))), (9, .bool (decide ((j : Int) < (qs.length : Int)))), (10, undef), (11, undef), (12, undef), (13, undef), (14, undef), (15, undef), (16, undef), (17, undef), (18, .bool false), (19, .bool false)] []
            (fun _ w' => w' = w4.drew) mixed rfl rfl rfl rfl rfl (by show ([0,1,2,3,4,5,6,7,8,9,10,11,12,13,14,15,16,17,18,19] : List Nat).Nodup; decide) rfl rfl (by decide) rfl rfl rfl rfl rfl ?_ trivial ?_
          · intro p hp vals w' hC a k
            subst hC
            simp only [List.mem_cons, List.not_mem_nil, or_false] at hp
            rcases hp with rfl | rfl | rfl | rfl | rfl | rfl | rfl | rfl | rfl | rfl | rfl | rfl | rfl | rfl | rfl | rfl | rfl | rfl | rfl | rfl
            · exact gv rfl rfl (rn_fieldAddr k rfl fo_tag0)
            · exact gv rfl rfl (rn_load k rfl to_u32 (hb4.cell0 (i := 0) rfl))
            · exact gv rfl rfl (rn_move k rfl)
            · exact gv rfl rfl (rn_lss k rfl rfl)
            · exact gv rfl rfl (rn_move k rfl)
            · exact gv_yes rfl rfl rfl k rfl (by rw [ht4]; rfl) (rn_move k rfl)
            · exact gv_yes rfl rfl rfl k rfl (by rw [ht4]; rfl) (rn_move k rfl)
            · exact gv_yes rfl rfl rfl k rfl (by rw [ht4]; rfl) (rn_len k rfl el_tags)
            · exact gv_yes rfl rfl rfl k rfl (by rw [ht4]; rfl) (rn_lss k rfl rfl)
            · exact gv_yes rfl rfl rfl k rfl (by rw [ht4]; rfl) (rn_move k rfl)
            iterate 8 (exact gv_no rfl rfl rfl k rfl (by rw [ht8]; rfl))
            · exact gv_yes rfl rfl rfl k rfl (by rw [ht4]; rfl) (rn_pick k rfl (by rw [ht8]; rfl))
            · exact gv rfl rfl (rn_pick k rfl (by rw [ht4]; rfl))
          · rintro vals w5 hvl rfl
            refine qk_thn ?_
            refine wc_no rfl rfl ?_
            repeat (with_reducible apply wc_skip)
            exact qk_cut () ⟨rfl, rfl, rfl, rfl, rfl, rfl, rfl, trivial⟩ ⟨by omega, fun h => absurd h hjl, rfl⟩
    rintro _ w5 ⟨hk, hne, rfl⟩
    have hins : (u.take (i + 1)).foldl (step (known fs)) [] = ((u.take i).foldl (step (known fs)) []).take j ++ (u[i].1, u[i].2) :: ((u.take i).foldl (step (known fs)) []).drop j := by
      rw [hsn, step, if_neg (by omega), hput, if_neg]
      rintro ⟨h1, h2⟩
      have h1' : j < qs.length := by rw [← tg_len hsay]; exact h1
      rw [tg_get hsay h1' h1] at h2
      exact hne h1' h2
    have hdlt4 := fun g hg => World.ownsRow.lt hrow4 g hg
    have hsz4 : w1.heap.size < w4.heap.size := hb4.lt
    repeat first|(with_reducible first|apply wc_seq|apply wc_region)|((with_reducible apply ws);exact rfl;exact rfl)
    refine wl_build rfl (cs := [.int .u32 0, .slice none 0 0]) (by kernel_rfl) rfl ?_
    refine wl_app1 (by kernel_rfl) rfl rfl rfl rfl rfl rfl rfl rfl hrow4 (by simp; omega) (by simp only [many]; omega) (fun d' w5 hrow5 hg5 => ?_)
    have hrow6 : w5.ownsRow w.heap.size 64 2 d' (qs.length + 1) (tcells (qs.take qs.length ++ (((0, []), .slice none 0 0) : Tg) :: qs.drop qs.length)) := by
      rw [List.take_length, List.drop_length, tcells_append]; exact hrow5
    have hb5 : Box w5 w1.heap.size [.int .u32 u[i].1, sv] 64 := Box.kept (w := w4.drew) hb4 hg5.grown (fun e => by have := (hdlt _ e.symm).2; omega)
    have hw5 : Below w.heap.size w w5 := hw4.drew.trans (hg5.below (by simp; omega) (fun g hg => (hdlt4 g hg).1))
    obtain ⟨g, cap, hde, hgB, hglt, _⟩ := Row.cells hrow5 (by omega)
    subst hde
    have hgne : g ≠ w1.heap.size := by
      rcases hg5.fresh with h | h
      · exact fun e => by have := (hdlt g (by rw [← h]; rfl)).2; omega
      · exact fun e => by have h3 : w4.heap.size ≤ g := h g rfl; omega
    repeat first|(with_reducible first|apply wc_seq|apply wc_region|apply wl_nil|apply qk_thn)|((with_reducible apply ws);exact rfl;exact rfl)
    refine wl_sub' rfl rfl rfl (r := (qs.length : Int)) (by rw [IntKind.wrap_i64]; omega) ?_
    repeat first|(with_reducible first|apply wl_nil|apply qk_thn|apply wc_block)|((with_reducible apply ws);exact rfl;exact rfl)
    refine wc_loop (α := Nat) (fun k => [(19, .int .i64 (i : Int)), (18, .int .i64 ((min u.length Most : Nat) : Int)), (17, .slice (some ⟨b, off, none⟩) (min u.length Most) cu), (9, .int .i64 (j : Int)), (8, .pointer (some ⟨w1.heap.size, 0, none⟩)), (6, .slice (some ⟨g, 0, none⟩) (qs.length + 1) cap), (5, .int .u32 (known fs : Nat)), (10, .int .i64 (k : Int))])
      (fun k w' => j ≤ k ∧ k ≤ qs.length ∧ Below w.heap.size w w' ∧ (∃ x : Tg, w'.ownsRow w.heap.size 64 2 (.slice (some ⟨g, 0, none⟩) (qs.length + 1) cap) (qs.length + 1) (tcells (qs.take k ++ x :: qs.drop k))) ∧ Box w' w1.heap.size [.int .u32 u[i].1, sv] 64) (fun k => k - j) qs.length ⟨rfl, rfl, rfl, rfl, rfl, rfl, rfl, rfl, trivial⟩ ⟨hj, Nat.le_refl _, hw5, ⟨_, hrow6⟩, hb5⟩ ?_
    rintro k w6 ⟨hjk, hkq, hw6, ⟨x, hrow6⟩, hb6⟩
    repeat first|(with_reducible first|apply wc_seq|apply wc_region|apply wl_nil|apply qk_thn)|((with_reducible apply ws);exact rfl;exact rfl)
    have hll : (qs.take k ++ x :: qs.drop k).length = qs.length + 1 := by simp; omega
    by_cases hkj : j < k
    · refine wc_yes rfl (by simpa using hkj) ?_
      obtain ⟨k, rfl⟩ : ∃ k', k = k' + 1 := ⟨k - 1, by omega⟩
      repeat first|(with_reducible first|apply wc_seq|apply wc_region|apply qk_thn|apply wc_block|apply wc_skip)|((with_reducible apply ws);exact rfl;exact rfl)
      refine wl_sub' rfl rfl rfl (r := (k : Int)) (by rw [IntKind.wrap_i64]; omega) ?_
      refine wl_indexAddr rfl rfl es_tags rfl (by omega) ?_
      obtain ⟨g2, cap2, hde2, _, _, hca⟩ := Row.cells hrow6 (by omega)
      cases hde2
      have hcj := tcells_at hca (j := k) (by omega)
      rw [List.getElem_append_left (by simp; omega)] at hcj
      refine wl_loadAgg (cs := [.int .u32 ((qs.take (k + 1))[k]'(by simp; omega)).1.1, ((qs.take (k + 1))[k]'(by simp; omega)).2]) rfl ta_tag rfl (fun j v e => hcj.cell e) ?_
      refine wl_indexAddr rfl rfl es_tags rfl (by omega) ?_
      have hone2 : (([.int .u32 ((qs.take (k + 1))[k]'(by simp; omega)).1.1, ((qs.take (k + 1))[k]'(by simp; omega)).2] : List Value).all fun v => v.oneCell') = true := by
        obtain ⟨a3, c3, h3, _⟩ := (hat ((qs.take (k + 1))[k]'(by simp; omega)) (List.mem_of_mem_take (List.getElem_mem _))).shape
        rw [h3]; rfl
      refine wl_storeRow (sz := 2) (cs := [.int .u32 ((qs.take (k + 1))[k]'(by simp; omega)).1.1, ((qs.take (k + 1))[k]'(by simp; omega)).2]) hrow6 rfl rfl rfl rfl tz_tag hone2 (by omega) (fun w7 hrow7 hg7 hs7 => ?_)
      rw [tcells_set _ (by omega)] at hrow7
      have hsh := shift_step qs x (k := k) (by omega)
      rw [List.getElem_take] at hrow7
      rw [hsh] at hrow7
      repeat first|(with_reducible first|apply wc_region|apply wl_nil|apply qk_thn|apply qk_in)|((with_reducible apply ws);exact rfl;exact rfl)
      refine wl_sub' rfl rfl rfl (r := (k : Int)) (by rw [IntKind.wrap_i64]; omega) ?_
      repeat first|(with_reducible apply wl_nil)|((with_reducible apply ws);exact rfl;exact rfl)
      have hs6 := hw6.size
      exact qk_round k ⟨rfl, rfl, rfl, rfl, rfl, rfl, rfl, rfl, trivial⟩ ⟨by omega, by omega, hw6.trans (below_of hg7 hs6 (by intro q hq; simp at hq; omega)), ⟨_, hrow7⟩, hb6.kept hg7 (by simp; omega)⟩ (by omega)
    · have hkj' : k = j := by omega
      subst hkj'
      refine wc_no rfl (by simp) ?_
      repeat first|(with_reducible first|apply wc_region|apply qk_thn|apply wc_exit|apply qk_thn_exit|apply qk_in_exit|apply qk_round_exit)|((with_reducible apply ws);exact rfl;exact rfl)
      refine wl_loadBAgg (cs := [.int .u32 u[i].1, sv]) rfl ta_tag rfl hb6 ?_
      refine wl_indexAddr rfl rfl es_tags rfl (by omega) ?_
      refine wl_storeRow (sz := 2) (cs := [.int .u32 u[i].1, sv]) hrow6 rfl rfl rfl rfl tz_tag hone (by omega) (fun w7 hrow7 hg7 hs7 => ?_)
      have hset := tcells_set (qs.take k ++ x :: qs.drop k) (j := k) (by omega) ((u[i].1, u[i].2), sv)
      simp only [] at hset
      rw [hset, shift_end qs x _ hkq] at hrow7
      have hs6 := hw6.size
      repeat (with_reducible first|apply wc_region|apply wl_nil|apply qk_thn|apply qk_in)
      refine wl_add rfl rfl rfl (r := ((i + 1 : Nat) : Int)) (by rw [IntKind.wrap_i64]; omega) ?_
      repeat first|(with_reducible apply wl_nil)|((with_reducible apply ws);exact rfl;exact rfl)
      refine qk_round ⟨i + 1, .slice (some ⟨g, 0, none⟩) (qs.length + 1) cap, qs.take k ++ ((u[i].1, u[i].2), sv) :: qs.drop k⟩ ⟨rfl, rfl, rfl, rfl, rfl, trivial⟩ ⟨by simp only []; omega, hw6.trans (below_of hg7 hs6 (by intro q hq; simp at hq; omega)), ?_, ?_, ?_⟩ (by simp only []; omega)
      · simp only []
        rw [show (qs.take k ++ (((u[i].1, u[i].2), sv) : Tg) :: qs.drop k).length = qs.length + 1 from by simp; omega]
        exact hrow7
      · simp only []
        rw [hins, ← hsay, List.map_append, List.map_cons, List.map_take, List.map_drop]
      · intro q hq
        simp only [List.mem_append, List.mem_cons] at hq
        rcases hq with hq | rfl | hq
        · exact hat q (List.mem_of_mem_take hq)
        · exact hsv
        · exact hat q (List.mem_of_mem_drop hq)
  · refine wc_no rfl (by simpa using hlt) ?_
    repeat first|(with_reducible first|apply wc_seq|apply wc_region|apply wl_nil|apply qk_thn|apply wc_ret|apply wc_exit|apply qk_thn_exit|apply qk_in_exit|apply qk_round_exit)|((with_reducible apply ws);exact rfl;exact rfl)
    refine qk_ret1 rfl rfl ⟨_, rfl, hw1, ?_⟩
    have hin : i = min u.length Most := by omega
    refine ⟨qs, hrow, ?_, hat⟩
    rw [hsay, hin]
    show _ = (u.take Most).foldl (step (known fs)) []
    rw [take_min]
theorem fn_unknown (fv uv : Value) (fs : List Fld) (u : List (Nat × List UInt8)) (B : Nat) (w : World) (hB : B ≤ w.heap.size) (hf : Sq B w fv (fs.map fldD)) (hu : Sq B w uv (u.map tagD)) (ht : ∀ f ∈ fs, f.tag < 2147483647) (hl : fs.length ≤ 1000000) :
    Fn 22 [fv, uv] w fun r w' => Sq w'.heap.size w' r ((unknown fs u).map tagD) := by
  refine (fn_unknownR fv uv fs u B w hB hf hu ht hl).mono ?_
  rintro e w1 ⟨v, rfl, hw1, qs, hrow, hsay, hat⟩
  refine ⟨v, rfl, hw1, ?_⟩
  have hd : (unknown fs u).map tagD = qs.map fun q => tagD q.1 := by
    rw [← hsay, List.map_map]; rfl
  rw [hd]
  have hr := tcells_reps (B := w1.heap.size) (w := w1) qs (fun q hq => (hat q hq).below (hw1.mono hB) (by have := hw1.size; omega))
  exact Row.sq (ds := qs.map fun q => tagD q.1) (by simpa using hrow) hr (Nat.le_refl _)
end
end Go.Proofs.YtgpnpfiafcakfaaGreat

namespace Go.Proofs.YtgpnpfiafcakfaaGreat
open Go Go.RowKit
theorem and1 (n : Int) : bits .and .i64 n 1 = n % 2 := by
 have key : bits .and .i64 n 1 = IntKind.i64.wrap ((BitVec.ofInt 64 n &&& BitVec.ofInt 64 1).toNat : Nat) := rfl
 rw [key, IntKind.wrap_i64]
 have h1 : (BitVec.ofInt 64 n &&& BitVec.ofInt 64 1).toNat = (BitVec.ofInt 64 n).toNat % 2 := by
  rw [BitVec.toNat_and]
  show (BitVec.ofInt 64 n).toNat &&& 1 = _
  rw [Nat.and_one_is_mod]
 rw [h1, BitVec.toNat_ofInt]
 omega
theorem wrap_bit (n : Int) : IntKind.u8.wrap (n % 2) = ((lowByte (n % 2)).toNat : Int) := wrap_u8 _
section
variable {P : Program} {ops : Array Oper} {Q : Exit → Act → World → Prop} {N : Nat} {rest : List Oper} {L : Sl} {w : World} {d : Nat} {ty : TypeId} {pos : String} {aft : Array Edge}
theorem wl_makeB {t u8 B n : Nat} {kl kc : IntKind} (hT : byteSl P t u8 = true) (hz : (P.info? u8).bind (·.zero) = some (.int .u8 0)) (hn : Nat.ble n 1000000 = true) (hd : Nat.blt d N = true) (hB : B ≤ w.heap.size)
  (h : ∀ w', Own w' B u8 (.slice (some ⟨w.heap.size, 0, none⟩) n n) (List.replicate n 0) → w.grownBy w' none → WL rest P ops Q N ((d, .slice (some ⟨w.heap.size, 0, none⟩) n n) :: L) w') :
  WL (⟨some d, .makeSlice t (.const (.int kl (n : Int))) (.const (.int kc (n : Int))), ty, pos, aft, none⟩ :: rest) P ops Q N L w := by
 intro a k
 obtain ⟨hu, i, z, hi, hs1, hb1, hz', hzc⟩ := byteSl_out hT
 have hn' := Nat.le_of_ble_eq_true hn
 obtain ⟨w', hr, ho, hg⟩ := run_makeSlice_full (P := P) (w := w) B t u8 i z 1 hu hi hz' hs1 kl kc n (by omega) (by rw [hb1]; omega) (by simp only [maxLen]; omega) hB
 have hzz : z = .int .u8 0 := by rw [hi] at hz; simp only [Option.bind_some, hz', Option.some.injEq] at hz; exact hz
 subst hzz
 have hc : (madeCells (Value.cells (.int .u8 0)) (n * 1)).toList = bv (List.replicate n 0) := by
  simp only [madeCells, Nat.mul_one, bv, List.map_replicate, Array.toList_map]
  apply List.ext_getElem
  ·simp
  ·intro j h1 h2; simp [Value.cells, Nat.mod_one]
 rw [hc] at ho
 refine st_of (o := ⟨some d, .makeSlice t (.const (.int kl (n : Int))) (.const (.int kc (n : Int))), ty, pos, aft, none⟩) (w' := w') rfl ?_ (h w' ?_ hg _ (k.put _ hd))
 ·simp only [execOp, eval_const, Sem.run_bind, hr, Result.andThen_ok, Sem.run_pure]
 ·unfold Own; rw [List.length_replicate]; exact ho
theorem wl_copyB {t u u8 B n g cap : Nat} {x y : Operand} {sv : Value} {xs ys : List UInt8} (hT : byteSl P t u8 = true) (hx : ev L x = some (.slice (some ⟨g, 0, none⟩) n cap)) (hy : ev L y = some sv) (hd : Nat.blt d N = true)
  (hown : Own w B u8 (.slice (some ⟨g, 0, none⟩) n cap) xs) (hlen : xs.length = n) (hsv : BytesAt w sv ys)
  (h : ∀ w', Own w' B u8 (.slice (some ⟨g, 0, none⟩) n cap) (ys.take n ++ xs.drop (min ys.length n)) → w.grownBy w' (some g) → WL rest P ops Q N ((d, .int .i64 ((min ys.length n : Nat) : Int)) :: L) w') :
  WL (⟨some d, .call ⟨.builtin .copy, #[x, y], #[t, u]⟩, ty, pos, aft, none⟩ :: rest) P ops Q N L w := by
 intro a k
 obtain ⟨hu, i, z, hi, hs1, hb1, hz', hzc⟩ := byteSl_out hT
 have hsz : (P.info? u8).map (·.size) = some 1 := by rw [hi]; simp [hs1]
 subst hlen
 rcases hsv with ⟨a0, c, rfl, rfl⟩ | ⟨b, off, c, rfl, hc⟩
 ·have hrun := run_copy_none (P := P) w t u ty u8 (some ⟨g, 0, none⟩) a0 xs.length cap 0 c hu hsz (by simp)
  refine st_of (o := ⟨some d, .call ⟨.builtin .copy, #[x, y], #[t, u]⟩, ty, pos, aft, none⟩) (v := .int .i64 ((min ([] : List UInt8).length xs.length : Nat) : Int)) (w' := w) rfl ?_ (h w (by simpa using hown) ⟨rfl, rfl, rfl, Nat.le_refl _, fun _ _ _ => rfl⟩ _ (k.put _ hd))
  simp only [execOp, resolve, List.map_toArray, List.map_cons, List.map_nil, k.eval hx, k.eval hy, Sem.run_bind, Sem.run_pure, Result.andThen_ok, invoke, builtin, hrun]
  simp [goInt]
 ·obtain ⟨hxl, ⟨he, h0⟩ | ⟨g', cap', cur, he, hBg, hheap, hle, hcap, hcs, htake⟩⟩ := hown
  ·cases he
  ·cases he
   have hcl : (bv (ys.take xs.length)).length = Nat.min ys.length xs.length := by rw [bv_length, List.length_take, Nat.min_comm]
   have hm : Nat.min ys.length xs.length ≤ xs.length := Nat.min_le_right _ _
   have hrun := run_copy_row (P := P) w t u ty u8 g 0 xs.length cap ⟨b, off, none⟩ ys.length c cur u8 (bv (ys.take xs.length)) hu hsz hheap hcl
    (fun j v hv => by
     rw [add_plain _ _ rfl]
     refine hc.cell (i := j) ?_
     simp only [bv, List.map_take] at hv
     rw [List.getElem?_take] at hv
     split at hv
     ·exact hv
     ·cases hv) (by rw [hcl]; rw [Nat.mul_one] at hcs; omega) (bv_one _)
   refine st_of (o := ⟨some d, .call ⟨.builtin .copy, #[x, y], #[t, u]⟩, ty, pos, aft, none⟩) (v := .int .i64 ((min ys.length xs.length : Nat) : Int)) (w' := w.setRow g (cur.toList.take 0 ++ bv (ys.take xs.length) ++ cur.toList.drop (0 + (bv (ys.take xs.length)).length)).toArray) rfl ?_ (h _ ?_ ?_ _ (k.put _ hd))
   ·simp only [execOp, resolve, List.map_toArray, List.map_cons, List.map_nil, k.eval hx, k.eval hy, Sem.run_bind, Sem.run_pure, Result.andThen_ok, invoke, builtin, hrun]
    simp [goInt, hcl]
   ·rw [Nat.mul_one] at hcs
    have hxx : (ys.take xs.length ++ xs.drop (min ys.length xs.length)).length = xs.length := by simp only [List.length_append, List.length_take, List.length_drop]; omega
    refine ⟨by rw [bv_length]; omega, .inr ⟨g, cap, _, by rw [hxx], hBg, setRow_heap w g cur _ u8 _ hheap, by rw [hxx]; exact hle, hcap, ?_, ?_⟩⟩
    ·simp only [List.size_toArray, List.length_append, List.length_take, List.length_drop, Array.length_toList, hcl, hcs]; omega
    ·have hl : cur.toList.length = cap := by simp [hcs]
     rw [hxx, bv_append]
     simp only [Nat.mul_one] at htake
     simp only [List.take_zero, List.nil_append, Nat.zero_add, hcl, Nat.mul_one]
     rw [List.take_append, List.take_of_length_le (by rw [hcl]; exact hm)]
     congr 1
     rw [hcl]
     have : bv (xs.drop (min ys.length xs.length)) = (bv xs).drop (min ys.length xs.length) := by simp [bv]
     rw [this, ← htake, List.drop_take]
   ·exact ⟨rfl, rfl, rfl, by simp, fun k' _ hk => setRow_other w g k' _ (fun e' => hk (by rw [e']))⟩
end
end Go.Proofs.YtgpnpfiafcakfaaGreat

namespace Go.Proofs.YtgpnpfiafcakfaaGreat
open Go Go.RowKit
theorem Own.below {w w' : World} {B u8 : Nat} {d : Value} {xs : List UInt8} (h : Own w B u8 d xs) (hb : Below w.heap.size w w') : Own w' B u8 d xs := by
 refine h.kept (grown_of hb) ?_
 cases hd : d.ownBlock with
 | none => exact .inl rfl
 | some g => exact .inr (by simp)
theorem Own.bytes {w : World} {B u8 : Nat} {d : Value} {xs : List UInt8} (h : Own w B u8 d xs) : BytesAt w d xs := by
 by_cases hn : 0 < xs.length
 ·obtain ⟨g, cap, rfl, _, _, hc⟩ := Row.cells h hn
  exact .inr ⟨g, 0, cap, rfl, hc⟩
 ·have h0 : xs = [] := List.length_eq_zero_iff.1 (by omega)
  subst h0
  obtain ⟨hxl, ⟨rfl, _⟩ | ⟨g, cap, cur, rfl, hBg, hheap, hle, hcap, hcs, htake⟩⟩ := h
  ·exact .inl ⟨none, 0, rfl, rfl⟩
  ·exact .inr ⟨g, 0, cap, rfl, cur, u8, (0, 0), hheap, by simp [bv], by simp [bv]⟩
theorem zero_u8 : (Tryz.prog.info? 5).bind (·.zero) = some (.int .u8 0) := by kernel_rfl
def PartOK (fs : List Fld) : Prop := ∀ (flex : Bool) (ver : Int) (t : Tree) (B : Nat) (w : World) (fv : Value) (ts : List Value), t.ok → B ≤ w.heap.size → Sq B w fv (fs.map fldD) → Rep (Lo B) w (treeD t) ts → (wPart ver flex fs t).length ≤ lim →
 Fn 24 [fv, .int .i64 ver, .bool flex, .agg ts.toArray] w fun v w' => Own w' w.heap.size 5 v (wPart ver flex fs t)
def ValueOK (kind : Int) (sub : List Fld) : Prop := ∀ (null flex : Bool) (ver : Int) (t : Tree) (B : Nat) (w : World) (fv : Value) (ts : List Value), t.ok → B ≤ w.heap.size → Sq B w fv (sub.map fldD) → Rep (Lo B) w (treeD t) ts → (wVal kind flex null (wPart ver flex sub) t).length ≤ lim →
 Fn 63 [.int .i64 kind, fv, .bool null, .int .i64 ver, .bool flex, .agg ts.toArray] w fun v w' => Own w' w.heap.size 5 v (wVal kind flex null (wPart ver flex sub) t)
def FieldOK (f : Fld) : Prop := ∀ (flex : Bool) (ver : Int) (t : Tree) (B : Nat) (w : World) (cs ts : List Value), t.ok → B ≤ w.heap.size → Rep (Lo B) w (fldD f) cs → Rep (Lo B) w (treeD t) ts → (wField ver flex f t).length ≤ lim →
 Fn 48 [.agg cs.toArray, .int .i64 ver, .bool flex, .agg ts.toArray] w fun v w' => Own w' w.heap.size 5 v (wField ver flex f t)
theorem whole_map (s : List UInt8) : (s.map byteD).take Most = (whole s).map byteD := by simp [whole]
theorem width_le (k : Int) : width k ≤ 8 := by
 unfold width
 split
 ·omega
 ·split
  ·omega
  ·split <;> omega
section
set_option maxRecDepth 100000
theorem value_of (kind : Int) (sub : List Fld) (hp : PartOK sub) : ValueOK kind sub := by
 intro null flex ver t B w fv ts hok hB hf ht hlim
 obtain ⟨sv, lv, uv, rfl, hs, _, _⟩ := tree_cells ht
 obtain ⟨sa, sc, rfl, _⟩ := hs.shape
 refine enter Tryz.func63 rfl Tryz.ntmps63 rfl ?_
 repeat (with_reducible first|apply wc_seq|apply wc_region)
 refine wl_box1 rfl rfl rfl (fun w1 hb hg hsz => ?_)
 have hw1 : Below w.heap.size w w1 := below_of hg (Nat.le_refl _) (by simp)
 have hB1 : B ≤ w1.heap.size := by omega
 repeat first|(with_reducible first|apply wc_seq|apply wc_region|apply wl_nil|apply qk_thn|apply wc_block)|((with_reducible apply ws);exact rfl;exact rfl)
 by_cases h0 : kind = 0
 ·subst h0
  refine wc_yes rfl (by decide) ?_
  repeat first|(with_reducible first|apply wc_seq|apply wc_region)|((with_reducible apply ws);exact rfl;exact rfl)
  refine wl_loadB rfl to_i64 rfl hb rfl ?_
  refine wl_and rfl rfl rfl (and1 t.n) ?_
  refine wl_conv .u8 rfl ti_l64 ti_u8 rfl (wrap_bit _) ?_
  refine wl_lit tb_bytes rfl (ys := [lowByte (t.n % 2)]) rfl rfl rfl rfl (fun w2 ho hb2 => ?_)
  repeat first|(with_reducible first|apply wl_nil|apply qk_thn|apply wc_ret|apply qk_thn_ret|apply qk_in_ret)|((with_reducible apply ws);exact rfl;exact rfl)
  exact qk_ret1 rfl rfl ⟨_, rfl, hw1.trans (hb2.mono (by omega)), by simpa [wVal] using ho.mono (by omega)⟩
 ·refine wc_no rfl (by simpa using h0) ?_
  repeat first|(with_reducible first|apply wc_seq|apply wc_region|apply wl_nil|apply qk_thn)|((with_reducible apply ws);exact rfl;exact rfl)
  by_cases h7 : kind = 7
  ·subst h7
   refine wc_yes rfl (by decide) ?_
   repeat (with_reducible first|apply wc_seq|apply wc_region)
   refine wl_makeB (n := 16) tb_bytes zero_u8 rfl rfl (B := w1.heap.size) (Nat.le_refl _) (fun w2 ho2 hg2 => ?_)
   repeat first|(with_reducible first|apply wc_seq|apply wc_region|apply wl_nil|apply qk_thn)|((with_reducible apply ws);exact rfl;exact rfl)
   have hb2 := hb.kept hg2 (by simp)
   refine wl_loadB rfl to_bytes rfl hb2 rfl ?_
   have hw2 : Below w.heap.size w w2 := hw1.trans (below_of hg2 (by omega) (by simp))
   refine wl_copyB tb_bytes rfl rfl rfl ho2 rfl (hs.below (hw2.mono hB) (Nat.le_refl _)).bytes (fun w3 ho3 hg3 => ?_)
   repeat first|(with_reducible first|apply wc_seq|apply wc_region|apply wl_nil|apply qk_thn|apply wc_ret|apply qk_thn_ret|apply qk_in_ret)|((with_reducible apply ws);exact rfl;exact rfl)
   refine qk_ret1 rfl rfl ⟨_, rfl, hw2.trans (below_of hg3 (by have := hw2.size; omega) (by intro k hk; simp at hk; omega)), ?_⟩
   have e : sixteen t.s = t.s.take 16 ++ (List.replicate 16 (0 : UInt8)).drop (min t.s.length 16) := by
    unfold sixteen
    rw [List.take_append]
    by_cases h : 16 ≤ t.s.length
    ·rw [Nat.min_eq_right h, List.drop_of_length_le (by simp), show 16 - t.s.length = 0 from by omega]; rfl
    ·rw [Nat.min_eq_left (by omega), List.take_replicate, List.drop_replicate, Nat.min_eq_left (by omega)]
   have e7 : wVal 7 flex null (wPart ver flex sub) t = sixteen t.s := by simp [wVal]
   rw [e7, e]
   exact ho3.mono (by omega)
  ·refine wc_no rfl (by simpa using h7) ?_
   repeat first|(with_reducible first|apply wc_seq|apply wc_region|apply wl_nil|apply qk_thn)|((with_reducible apply ws);exact rfl;exact rfl)
   by_cases h8 : kind = 8
   ·subst h8
    have e8 : wVal 8 flex null (wPart ver flex sub) t = counted flex null (if null then [] else whole t.s).length 2 ++ (if null then [] else whole t.s) := by simp [wVal]
    rw [e8] at hlim ⊢
    refine wc_yes rfl (by decide) ?_
    repeat first|(with_reducible first|apply wc_seq|apply wc_region)|((with_reducible apply ws);exact rfl;exact rfl)
    refine wl_loadB rfl to_bytes rfl hb rfl ?_
    have hs1 := hs.below (hw1.mono hB) (Nat.le_refl _)
    refine wl_call rfl (by kernel_rfl) rfl ((fn_whole _ _ _ _ hs1).mono ?_)
    rintro e w2 ⟨v, rfl, hb2, rfl, hsq⟩
    refine ⟨v, rfl, ?_⟩
    rw [whole_map] at hsq
    have hby := hsq.bytes
    obtain ⟨a3, c3, rfl⟩ := hby.shape
    cases null
    ·simp only [Bool.false_eq_true, if_false] at hlim ⊢
     repeat first|(with_reducible first|apply wc_seq|apply wc_region|apply wl_nil|apply qk_thn)|((with_reducible apply ws);exact rfl;exact rfl)
     refine wc_no rfl rfl ?_
     repeat first|(with_reducible first|apply wc_seq|apply wc_region|apply qk_thn|apply wc_skip)|((with_reducible apply ws);exact rfl;exact rfl)
     have hwl : (whole t.s).length ≤ 32767 := by simp [whole, Most]; omega
     refine wl_call rfl (by kernel_rfl) rfl ((fn_counted flex false (whole t.s).length 2 (by omega) (by omega) w2).mono ?_)
     rintro e w3 ⟨v, rfl, hb3, ho3⟩
     refine ⟨v, rfl, ?_⟩
     repeat ((with_reducible apply ws);exact rfl;exact rfl)
     refine wl_appSl tb_bytes tb_bytes rfl rfl rfl (hby.below hb3) ho3 hb3.size (by simpa using hlim) (fun d' w4 ho4 hg4 => ?_)
     repeat first|(with_reducible first|apply wl_nil|apply qk_thn|apply wc_ret|apply qk_thn_ret|apply qk_in_ret)|((with_reducible apply ws);exact rfl;exact rfl)
     exact qk_ret1 rfl rfl ⟨_, rfl, hw1.trans ((hb3.mono (by omega)).trans (hg4.below (by have := hb3.size; omega) (fun g hg => by have := ho3.ge g hg; omega))), ho4.mono (by omega)⟩
    ·simp only [if_true] at hlim ⊢
     repeat first|(with_reducible first|apply wc_seq|apply wc_region|apply wl_nil|apply qk_thn)|((with_reducible apply ws);exact rfl;exact rfl)
     refine wc_yes rfl rfl ?_
     repeat first|(with_reducible first|apply wc_seq|apply wc_region|apply wl_nil|apply qk_thn)|((with_reducible apply ws);exact rfl;exact rfl)
     refine wl_call rfl (by kernel_rfl) rfl ((fn_counted flex true 0 2 (by omega) (by omega) w2).mono ?_)
     rintro e w3 ⟨v, rfl, hb3, ho3⟩
     refine ⟨v, rfl, ?_⟩
     repeat ((with_reducible apply ws);exact rfl;exact rfl)
     refine wl_appSl (ys := []) tb_bytes tb_bytes rfl rfl rfl (.inl ⟨none, 0, rfl, rfl⟩) ho3 hb3.size (by simpa using hlim) (fun d' w4 ho4 hg4 => ?_)
     repeat first|(with_reducible first|apply wl_nil|apply qk_thn|apply wc_ret|apply qk_thn_ret|apply qk_in_ret)|((with_reducible apply ws);exact rfl;exact rfl)
     exact qk_ret1 rfl rfl ⟨_, rfl, hw1.trans ((hb3.mono (by omega)).trans (hg4.below (by have := hb3.size; omega) (fun g hg => by have := ho3.ge g hg; omega))), ho4.mono (by omega)⟩
   ·refine wc_no rfl (by simpa using h8) ?_
    repeat first|(with_reducible first|apply wc_seq|apply wc_region|apply wl_nil|apply qk_thn)|((with_reducible apply ws);exact rfl;exact rfl)
    by_cases h9 : kind = 9
    ·subst h9
     have e9 : wVal 9 flex null (wPart ver flex sub) t = counted flex null (if null then [] else whole t.s).length 4 ++ (if null then [] else whole t.s) := by simp [wVal]
     rw [e9] at hlim ⊢
     refine wc_yes rfl (by decide) ?_
     repeat first|(with_reducible first|apply wc_seq|apply wc_region)|((with_reducible apply ws);exact rfl;exact rfl)
     refine wl_loadB rfl to_bytes rfl hb rfl ?_
     have hs1 := hs.below (hw1.mono hB) (Nat.le_refl _)
     refine wl_call rfl (by kernel_rfl) rfl ((fn_whole _ _ _ _ hs1).mono ?_)
     rintro e w2 ⟨v, rfl, hb2, rfl, hsq⟩
     refine ⟨v, rfl, ?_⟩
     rw [whole_map] at hsq
     have hby := hsq.bytes
     obtain ⟨a3, c3, rfl⟩ := hby.shape
     cases null
     ·simp only [Bool.false_eq_true, if_false] at hlim ⊢
      repeat first|(with_reducible first|apply wc_seq|apply wc_region|apply wl_nil|apply qk_thn)|((with_reducible apply ws);exact rfl;exact rfl)
      refine wc_no rfl rfl ?_
      repeat first|(with_reducible first|apply wc_seq|apply wc_region|apply qk_thn|apply wc_skip)|((with_reducible apply ws);exact rfl;exact rfl)
      have hwl : (whole t.s).length ≤ 32767 := by simp [whole, Most]; omega
      refine wl_call rfl (by kernel_rfl) rfl ((fn_counted flex false (whole t.s).length 4 (by omega) (by omega) w2).mono ?_)
      rintro e w3 ⟨v, rfl, hb3, ho3⟩
      refine ⟨v, rfl, ?_⟩
      repeat ((with_reducible apply ws);exact rfl;exact rfl)
      refine wl_appSl tb_bytes tb_bytes rfl rfl rfl (hby.below hb3) ho3 hb3.size (by simpa using hlim) (fun d' w4 ho4 hg4 => ?_)
      repeat first|(with_reducible first|apply wl_nil|apply qk_thn|apply wc_ret|apply qk_thn_ret|apply qk_in_ret)|((with_reducible apply ws);exact rfl;exact rfl)
      exact qk_ret1 rfl rfl ⟨_, rfl, hw1.trans ((hb3.mono (by omega)).trans (hg4.below (by have := hb3.size; omega) (fun g hg => by have := ho3.ge g hg; omega))), ho4.mono (by omega)⟩
     ·simp only [if_true] at hlim ⊢
      repeat first|(with_reducible first|apply wc_seq|apply wc_region|apply wl_nil|apply qk_thn)|((with_reducible apply ws);exact rfl;exact rfl)
      refine wc_yes rfl rfl ?_
      repeat first|(with_reducible first|apply wc_seq|apply wc_region|apply wl_nil|apply qk_thn)|((with_reducible apply ws);exact rfl;exact rfl)
      refine wl_call rfl (by kernel_rfl) rfl ((fn_counted flex true 0 4 (by omega) (by omega) w2).mono ?_)
      rintro e w3 ⟨v, rfl, hb3, ho3⟩
      refine ⟨v, rfl, ?_⟩
      repeat ((with_reducible apply ws);exact rfl;exact rfl)
      refine wl_appSl (ys := []) tb_bytes tb_bytes rfl rfl rfl (.inl ⟨none, 0, rfl, rfl⟩) ho3 hb3.size (by simpa using hlim) (fun d' w4 ho4 hg4 => ?_)
      repeat first|(with_reducible first|apply wl_nil|apply qk_thn|apply wc_ret|apply qk_thn_ret|apply qk_in_ret)|((with_reducible apply ws);exact rfl;exact rfl)
      exact qk_ret1 rfl rfl ⟨_, rfl, hw1.trans ((hb3.mono (by omega)).trans (hg4.below (by have := hb3.size; omega) (fun g hg => by have := ho3.ge g hg; omega))), ho4.mono (by omega)⟩
    ·refine wc_no rfl (by simpa using h9) ?_
     repeat first|(with_reducible first|apply wc_seq|apply wc_region|apply wl_nil|apply qk_thn)|((with_reducible apply ws);exact rfl;exact rfl)
     by_cases h10 : kind = 10
     ·subst h10
      have e10 : wVal 10 flex null (wPart ver flex sub) t = wPart ver flex sub t := by simp [wVal]
      rw [e10] at hlim ⊢
      refine wc_yes rfl (by decide) ?_
      repeat first|(with_reducible first|apply wc_seq|apply wc_region)|((with_reducible apply ws);exact rfl;exact rfl)
      refine wl_loadBAgg (cs := [.int .i64 t.n, .slice sa (t.s.map byteD).length sc, .bool t.nul, lv, uv]) rfl ta_tree rfl hb ?_
      refine wl_call rfl (by kernel_rfl) rfl ((hp flex ver t B w1 _ _ hok hB1 (hf.below (hw1.mono hB) (Nat.le_refl _)) (ht.below (hw1.mono hB) (Nat.le_refl _)) hlim).mono ?_)
      rintro e w3 ⟨v, rfl, hb3, ho3⟩
      refine ⟨v, rfl, ?_⟩
      repeat first|(with_reducible first|apply wl_nil|apply qk_thn|apply wc_ret|apply qk_thn_ret|apply qk_in_ret)|((with_reducible apply ws);exact rfl;exact rfl)
      exact qk_ret1 rfl rfl ⟨_, rfl, hw1.trans (hb3.mono (by omega)), ho3.mono (by omega)⟩
     ·refine wc_no rfl (by simpa using h10) ?_
      repeat (with_reducible first|apply wc_seq|apply qk_thn|apply wc_skip|apply qk_in)
      have ed : wVal kind flex null (wPart ver flex sub) t = be (width kind) t.n := by simp [wVal, h0, h7, h8, h9, h10]
      rw [ed]
      have hbx : ∀ w', Below w1.heap.size w1 w' → Box w' w.heap.size [.int .i64 t.n, .slice sa (t.s.map byteD).length sc, .bool t.nul, lv, uv] 26 := fun w' h => hb.below h (by omega)
      refine wc_par [(0, .pointer (some ⟨w.heap.size, 0 + 0, none⟩)), (1, .int .i64 t.n), (2, .int .i64 kind)] [5, 4, 3]
       (fun vals w' => Below w1.heap.size w1 w' ∧ match vals with
        | [] => True
        | [v] => v = .int .i64 (width kind : Nat)
        | v :: _ => Own w' w1.heap.size 5 v (be (width kind) t.n))
       mixed rfl rfl rfl rfl rfl (by show ([0,1,2] : List Nat).Nodup; decide) rfl rfl (by decide) rfl rfl rfl rfl ⟨(Below.refl _ w1).drew, trivial⟩ ?_ ⟨?_, ?_, ?_, trivial⟩ ?_
      ·intro p hp vals w' hC a k
       simp only [List.mem_cons, List.not_mem_nil, or_false] at hp
       rcases hp with rfl | rfl | rfl
       ·exact gv rfl rfl (rn_fieldAddr k rfl fo_tree0)
       ·exact gv rfl rfl (rn_load k rfl to_i64 ((hbx _ hC.1).cell0 (i := 0) rfl))
       ·exact gv rfl rfl (rn_move k rfl)
      ·rintro vals w' hvl ⟨hb', hC⟩ a k
       match vals, hvl with
       | [v4, v3], _ => exact ⟨_, rfl, does_assign k rfl ⟨hb', hC⟩⟩
      ·rintro vals w' hvl ⟨hb', hC⟩ a k
       match vals, hvl with
       | [v3], _ =>
        simp only [] at hC
        subst hC
        have hwd := width_le kind
        exact ⟨_, rfl, does_call k rfl (by kernel_rfl) ((fn_fixed t.n (width kind) hwd w').mono (by rintro e w'' ⟨v, rfl, hb'', ho⟩; exact ⟨v, rfl, hb'.trans (hb''.mono hb'.size), ho.mono hb'.size⟩))⟩
      ·rintro vals w' hvl ⟨hb', hC⟩ a k
       match vals, hvl with
       | [], _ =>
        exact ⟨_, rfl, does_call k rfl (by kernel_rfl) ((fn_width kind w').mono (by rintro e w'' ⟨v, rfl, hb'', rfl, rfl⟩; exact ⟨_, rfl, hb', rfl⟩))⟩
      ·rintro vals w' hvl ⟨hb', hC⟩
       match vals, hvl with
       | [v5, v4, v3], _ =>
        refine qk_thn ?_
        repeat (with_reducible apply wc_ret)
        exact qk_ret1 rfl rfl ⟨_, rfl, hw1.trans (hb'.mono (by omega)), Own.mono hC (by omega)⟩
end
end Go.Proofs.YtgpnpfiafcakfaaGreat

namespace Go.Proofs.YtgpnpfiafcakfaaGreat
open Go Go.RowKit
theorem flatMap_take_le {α β : Type} (g : α → List β) (l : List α) (i : Nat) : ((l.take i).flatMap g).length ≤ (l.flatMap g).length := by
 have : l.flatMap g = (l.take i).flatMap g ++ (l.drop i).flatMap g := by rw [← List.flatMap_append, List.take_append_drop]
 rw [this, List.length_append]; omega
theorem flatMap_take_succ {α β : Type} (g : α → List β) (l : List α) {i : Nat} (hi : i < l.length) : (l.take (i + 1)).flatMap g = (l.take i).flatMap g ++ g l[i] := by
 rw [List.take_succ_eq_append_getElem hi, List.flatMap_append]; simp
structure FdS where
 i : Nat
 d : Value
section
set_option maxRecDepth 100000
theorem field_of (f : Fld) (hv : ∀ k, ValueOK k f.sub) (hp : PartOK f.sub) : FieldOK f := by
 intro flex ver t B w cs ts hok hB hf ht hlim
 obtain ⟨sv, rfl, hsub⟩ := fld_cells hf
 obtain ⟨sv2, lv, uv, rfl, hs, hl, hu⟩ := tree_cells ht
 obtain ⟨la, lc, rfl, _⟩ := hl.shape
 rw [wField_eq] at hlim ⊢
 refine enter Tryz.func48 rfl Tryz.ntmps48 rfl ?_
 repeat (with_reducible first|apply wc_seq|apply wc_region)
 refine wl_box1 rfl rfl rfl (fun w1 hb1 hg1 hs1 => wl_box1 rfl rfl rfl (fun w2 hb2 hg2 hs2 => ?_))
 have hb4 := hb1.kept hg2 (by simp)
 have hw2 : Below w.heap.size w w2 := (below_of hg1 (Nat.le_refl _) (by simp)).trans (below_of hg2 (by omega) (by simp))
 have hB2 : B ≤ w2.heap.size := by omega
 have hbt : ∀ w', Below w2.heap.size w2 w' → Box w' w1.heap.size [.int .i64 t.n, sv2, .bool t.nul, .slice la (t.l.map treeD).length lc, uv] 26 := fun w' h => hb2.below h (by omega)
 have hbf : ∀ w', Below w2.heap.size w2 w' → Box w' w.heap.size [.int .i64 f.kind, .int .i64 f.fr, .int .i64 f.upto, .int .i64 f.nul, .int .i64 f.tag, .int .i64 f.df, .int .i64 f.of, sv] 50 := fun w' h => hb4.below h (by omega)
 repeat first|(with_reducible first|apply wc_seq|apply wc_region|apply wl_nil|apply qk_thn)|((with_reducible apply ws);exact rfl;exact rfl)
 refine wl_loadBAgg (cs := [.int .i64 f.kind, .int .i64 f.fr, .int .i64 f.upto, .int .i64 f.nul, .int .i64 f.tag, .int .i64 f.df, .int .i64 f.of, sv]) rfl ta_fld rfl hb4 ?_
 repeat ((with_reducible apply ws);exact rfl;exact rfl)
 refine wl_loadBAgg (cs := [.int .i64 t.n, sv2, .bool t.nul, .slice la (t.l.map treeD).length lc, uv]) rfl ta_tree rfl hb2 ?_
 refine wl_call rfl (by kernel_rfl) rfl ((fn_null f ver t B w2 hB2 _ _ (hf.below (hw2.mono hB) (Nat.le_refl _)) (ht.below (hw2.mono hB) (Nat.le_refl _))).mono ?_)
 rintro e w3 ⟨v, rfl, hw3, rfl⟩
 refine ⟨_, rfl, ?_⟩
 have hB3 : B ≤ w3.heap.size := by have := hw3.size; omega
 have hw03 : Below w.heap.size w w3 := hw2.trans (hw3.mono (by omega))
 repeat first|(with_reducible first|apply wc_seq|apply wc_region|apply wl_nil|apply qk_thn)|((with_reducible apply ws);exact rfl;exact rfl)
 refine wl_loadB rfl to_int rfl (hbf _ hw3) rfl ?_
 repeat first|(with_reducible first|apply wl_nil|apply qk_thn)|((with_reducible apply ws);exact rfl;exact rfl)
 by_cases h11 : f.kind = 11
 ·refine wc_yes rfl (by simpa using h11) ?_
  rw [if_pos h11] at hlim ⊢
  repeat first|(with_reducible first|apply wc_seq|apply wc_region)|((with_reducible apply ws);exact rfl;exact rfl)
  refine wl_loadB rfl to_trees rfl (hbt _ hw3) rfl ?_
  have hl3 : Sq B w3 (.slice la (t.l.map treeD).length lc) (t.l.map treeD) := hl.below (hw03.mono hB) (Nat.le_refl _)
  refine wl_call rfl (by kernel_rfl) rfl ((fn_things _ _ _ _ hl3).mono ?_)
  rintro e w4 ⟨v, rfl, hb4', rfl, hsq⟩
  refine ⟨v, rfl, ?_⟩
  have hsq' : Sq B w4 v ((things t.l).map treeD) := by simpa [things] using hsq
  refine wl_assign rfl rfl (wl_nil (qk_thn ?_))
  refine wc_cut (α := Value) (fun x => [(10, x), (9, .bool (f.null ver t)), (7, .pointer (some ⟨w1.heap.size, 0, none⟩)), (4, .pointer (some ⟨w.heap.size, 0, none⟩)), (2, .bool flex), (1, .int .i64 ver)])
   (fun x w' => w' = w4 ∧ Sq B w4 x ((if f.null ver t then [] else things t.l).map treeD)) ?_ ?_
  ·repeat first|(with_reducible first|apply wc_seq|apply wc_region|apply wl_nil|apply qk_thn)|((with_reducible apply ws);exact rfl;exact rfl)
   cases hn : f.null ver t
   ·refine wc_no rfl rfl ?_
    repeat (with_reducible apply wc_skip)
    exact qk_cut v ⟨rfl, rfl, rfl, rfl, rfl, rfl, trivial⟩ ⟨rfl, by simpa using hsq'⟩
   ·refine wc_yes rfl rfl ?_
    repeat first|(with_reducible first|apply wc_region|apply wl_nil)|((with_reducible apply ws);exact rfl;exact rfl)
    exact qk_cut (.slice none 0 0) ⟨rfl, rfl, rfl, rfl, rfl, rfl, trivial⟩ ⟨rfl, by simp only [Sq, Rep]; exact ⟨none, 0, rfl, by simp, .inl (by simp)⟩⟩
  rintro x w5 ⟨rfl, hx⟩
  generalize hxl : (if f.null ver t then [] else things t.l) = xs at hx hlim ⊢
  have hxs : ∀ y ∈ xs, y.ok := by
   intro y hy; subst hxl
   split at hy
   ·cases hy
   ·exact hok.l y (List.mem_of_mem_take hy)
  have hxn : xs.length ≤ 32767 := by
   subst hxl; split
   ·simp
   ·simp only [things, Most, List.length_take]; omega
  obtain ⟨xa, xc, rfl, _⟩ := hx.shape
  rw [List.length_map] at *
  repeat first|(with_reducible first|apply wc_seq|apply wc_region)|((with_reducible apply ws);exact rfl;exact rfl)
  refine wl_call rfl (by kernel_rfl) rfl ((fn_counted flex (f.null ver t) xs.length 4 (by omega) (by omega) w5).mono ?_)
  rintro e w6 ⟨v6, rfl, hb6, ho6⟩
  refine ⟨v6, rfl, ?_⟩
  repeat first|(with_reducible first|apply wc_seq|apply wc_region|apply wl_nil|apply qk_thn|apply wc_block)|((with_reducible apply ws);exact rfl;exact rfl)
  have hw5 := hw3.size
  refine wc_loop (α := FdS) (fun s => [(31, .int .i64 (s.i : Int)), (30, .int .i64 (xs.length : Int)), (11, s.d), (10, .slice xa xs.length xc), (7, .pointer (some ⟨w1.heap.size, 0, none⟩)), (4, .pointer (some ⟨w.heap.size, 0, none⟩)), (2, .bool flex), (1, .int .i64 ver)])
   (fun s w' => s.i ≤ xs.length ∧ Below w5.heap.size w5 w' ∧ Own w' w5.heap.size 5 s.d (counted flex (f.null ver t) xs.length 4 ++ (xs.take s.i).flatMap (wVal f.of flex false (wPart ver flex f.sub)))) (fun s => xs.length - s.i) ⟨0, v6⟩ ⟨rfl, rfl, rfl, rfl, rfl, rfl, rfl, rfl, trivial⟩ ⟨Nat.zero_le _, hb6, by simpa using ho6⟩ ?_
  rintro ⟨i, d⟩ w7 ⟨hi, hw7, ho7⟩
  simp only [] at hi ho7
  change WC _ _ _ _ [(31, .int .i64 (i : Int)), (30, .int .i64 (xs.length : Int)), (11, d), (10, .slice xa xs.length xc), (7, .pointer (some ⟨w1.heap.size, 0, none⟩)), (4, .pointer (some ⟨w.heap.size, 0, none⟩)), (2, .bool flex), (1, .int .i64 ver)] _
  repeat first|(with_reducible first|apply wc_seq|apply wc_region|apply wl_nil|apply qk_thn)|((with_reducible apply ws);exact rfl;exact rfl)
  by_cases hlt : i < xs.length
  ·refine wc_yes rfl (by simpa using hlt) ?_
   repeat first|(with_reducible first|apply wc_seq|apply wc_region|apply wl_nil|apply qk_thn|apply wc_block|apply wc_skip)|((with_reducible apply ws);exact rfl;exact rfl)
   obtain ⟨b, off, c', cs, hv2, hbB, hcs, hlen, hr⟩ := hx.get (sz := 5) (i := i) (by intro d hd; obtain ⟨x, _, rfl⟩ := List.mem_map.1 hd; exact treeD_width x) (by simpa using hlt)
   simp only [Value.slice.injEq, List.length_map] at hv2
   obtain ⟨rfl, _, rfl⟩ := hv2
   simp only [List.getElem_map] at hr
   have hcsw : ∀ w', Below w5.heap.size w5 w' → CellsAt w' b (off + i * 5) cs := fun w' h => hcs.of_block (h.block b (by omega))
   have h25 : ∀ w', Below w5.heap.size w5 w' → Below w2.heap.size w2 w' := fun w' h => hw3.trans (h.mono hw5)
   have htk := flatMap_take_succ (wVal f.of flex false (wPart ver flex f.sub)) xs hlt
   have hle := flatMap_take_le (wVal f.of flex false (wPart ver flex f.sub)) xs (i + 1)
   rw [htk] at hle
   simp only [List.length_append] at hle hlim
   refine wc_par [(0, d), (1, .pointer (some ⟨w.heap.size, 0 + 6, none⟩)), (2, .int .i64 f.of), (3, .pointer (some ⟨w.heap.size, 0 + 7, none⟩)), (4, sv), (5, .int .i64 ver), (6, .bool flex), (7, .slice (some ⟨b, off, none⟩) xs.length xc), (8, .int .i64 (i : Int)), (9, .pointer (some ⟨b, off + i * 5, none⟩)), (10, .agg cs.toArray)] [13, 12, 11]
    (fun vals w' => Below w5.heap.size w5 w' ∧ match vals with
     | [] => w' = w7.drew
     | [v] => Below w7.heap.size w7 w' ∧ Own w' w7.heap.size 5 v (wVal f.of flex false (wPart ver flex f.sub) xs[i])
     | v :: _ => Own w' w5.heap.size 5 v (counted flex (f.null ver t) xs.length 4 ++ (xs.take (i + 1)).flatMap (wVal f.of flex false (wPart ver flex f.sub))))
    mixed rfl rfl rfl rfl rfl (by show ([0,1,2,3,4,5,6,7,8,9,10] : List Nat).Nodup; decide) rfl rfl (by decide) rfl rfl rfl rfl ⟨hw7.drew, rfl⟩ ?_ ⟨?_, ?_, ?_, trivial⟩ ?_
   ·intro p hp vals w' hC a k
    simp only [List.mem_cons, List.not_mem_nil, or_false] at hp
    rcases hp with rfl | rfl | rfl | rfl | rfl | rfl | rfl | rfl | rfl | rfl | rfl
    ·exact gv rfl rfl (rn_move k rfl)
    ·exact gv rfl rfl (rn_fieldAddr k rfl fo_fld6)
    ·exact gv rfl rfl (rn_load k rfl to_int ((hbf _ (h25 _ hC.1)).cell0 (i := 6) rfl))
    ·exact gv rfl rfl (rn_fieldAddr k rfl fo_fld7)
    ·exact gv rfl rfl (rn_load k rfl to_flds ((hbf _ (h25 _ hC.1)).cell0 (i := 7) rfl))
    ·exact gv rfl rfl (rn_move k rfl)
    ·exact gv rfl rfl (rn_move k rfl)
    ·exact gv rfl rfl (rn_move k rfl)
    ·exact gv rfl rfl (rn_move k rfl)
    ·exact gv rfl rfl (rn_indexAddr k rfl rfl es_trees hlt)
    ·exact gv rfl rfl (rn_loadAgg k rfl (by rw [hlen]; exact ta_tree) (fun j v e => (hcsw _ hC.1).cell e))
   ·rintro vals w' hvl ⟨hb', hC⟩ a k
    match vals, hvl with
    | [v12, v11], _ => exact ⟨_, rfl, does_assign k rfl ⟨hb', hC⟩⟩
   ·rintro vals w' hvl ⟨hb', hC⟩ a k
    match vals, hvl with
    | [v11], _ =>
     obtain ⟨hb7, hov⟩ := hC
     refine ⟨_, rfl, does_appSl k tb_bytes tb_bytes rfl rfl hov.bytes (ho7.below hb7) hb'.size (by simp only [List.length_append]; omega) (fun d' w'' ho'' hg'' => ⟨hb'.trans (hg''.below hb'.size ho7.ge), ?_⟩)⟩
     simp only []
     rw [htk, ← List.append_assoc]; exact ho''
   ·rintro vals w' hvl ⟨hb', hC⟩ a k
    match vals, hvl with
    | [], _ =>
     simp only [] at hC
     subst hC
     have hw70 := hw7.size
     exact ⟨_, rfl, does_call k rfl (by kernel_rfl) ((hv f.of false flex ver xs[i] w5.heap.size w7.drew _ _ (hxs _ (List.getElem_mem hlt)) hw70 (hsub.below (((hw03.trans (hw7.mono (by omega))).drew).mono hB) (by omega)) (Rep.below hr ((hw7.drew).mono (by omega)) (by omega)) (by omega)).mono (by rintro e w'' ⟨v, rfl, hb'', ho⟩; exact ⟨v, rfl, hb'.trans (hb''.mono hw70), (Below.refl _ w7).drew.trans hb'', ho⟩))⟩
   ·rintro vals w' hvl ⟨hb', hC⟩
    match vals, hvl with
    | [v13, v12, v11], _ =>
     refine qk_thn ?_
     repeat (with_reducible apply wc_region)
     refine wl_add rfl rfl rfl (r := ((i + 1 : Nat) : Int)) (by rw [IntKind.wrap_i64]; omega) ?_
     repeat first|(with_reducible apply wl_nil)|((with_reducible apply ws);exact rfl;exact rfl)
     exact qk_round ⟨i + 1, v13⟩ ⟨rfl, rfl, rfl, rfl, rfl, rfl, rfl, rfl, trivial⟩ ⟨by simp only []; omega, hb', hC⟩ (by simp only []; omega)
  ·refine wc_no rfl (by simpa using hlt) ?_
   repeat first|(with_reducible first|apply wc_seq|apply wc_region|apply wl_nil|apply qk_thn|apply wc_ret|apply wc_exit|apply qk_thn_ret|apply qk_thn_exit|apply qk_in_exit|apply qk_round_exit)|((with_reducible apply ws);exact rfl;exact rfl)
   refine qk_ret1 rfl rfl ⟨_, rfl, hw03.trans (hw7.mono (by omega)), ?_⟩
   rw [List.take_of_length_le (by omega)] at ho7
   exact ho7.mono (by omega)
 ·refine wc_no rfl (by simpa using h11) ?_
  rw [if_neg h11] at hlim ⊢
  refine wc_skip (qk_thn ?_)
  refine wc_cut (α := Unit) (fun _ => [(9, .bool (f.null ver t)), (7, .pointer (some ⟨w1.heap.size, 0, none⟩)), (4, .pointer (some ⟨w.heap.size, 0, none⟩)), (2, .bool flex), (1, .int .i64 ver)]) (fun _ w' => w' = w3 ∧ ¬ (f.kind = 10 ∧ 0 ≤ f.nul)) ?_ ?_
  ·repeat first|(with_reducible first|apply wc_seq|apply wc_region)|((with_reducible apply ws);exact rfl;exact rfl)
   refine wl_loadB rfl to_int rfl (hbf _ hw3) rfl ?_
   repeat ((with_reducible apply ws);exact rfl;exact rfl)
   by_cases h10 : f.kind = 10
   ·have e10 : (f.kind == 10) = true := by simpa using h10
    rw [e10]
    repeat first|((with_reducible apply ws);exact rfl;exact rfl)|((with_reducible apply wl_yes);exact rfl;exact rfl;exact rfl)
    refine wl_loadB rfl to_int rfl (hbf _ hw3) rfl ?_
    repeat first|(with_reducible first|apply wl_nil|apply qk_thn)|((with_reducible apply ws);exact rfl;exact rfl)|((with_reducible apply wl_yes);exact rfl;exact rfl;exact rfl)
    by_cases hnl : 0 ≤ f.nul
    ·refine wc_yes rfl (by simpa using hnl) ?_
     rw [if_pos ⟨h10, hnl⟩] at hlim ⊢
     repeat first|(with_reducible first|apply wc_seq|apply wc_region|apply wl_nil|apply qk_thn)|((with_reducible apply ws);exact rfl;exact rfl)
     cases hn : f.null ver t
     ·refine wc_no rfl rfl ?_
      rw [hn] at hlim
      simp only [Bool.false_eq_true, if_false] at hlim ⊢
      repeat (with_reducible first|apply wc_seq|apply qk_thn|apply wc_skip)
      refine wc_par [(1, .pointer (some ⟨w.heap.size, 0 + 7, none⟩)), (2, sv), (3, .int .i64 ver), (4, .bool flex), (5, .agg ([.int .i64 t.n, sv2, .bool t.nul, .slice la (t.l.map treeD).length lc, uv] : List Value).toArray)] [8, 7, 6, 0]
       (fun vals w' => Below w3.heap.size w3 w' ∧ match vals with
        | [] => True
        | [v] => Own w' w3.heap.size 5 v (be 1 1)
        | [v, v0] => Own w' w3.heap.size 5 v0 (be 1 1) ∧ Own w' w3.heap.size 5 v (wPart ver flex f.sub t)
        | v :: _ => Own w' w3.heap.size 5 v (be 1 1 ++ wPart ver flex f.sub t))
       mixed rfl rfl rfl rfl rfl (by show ([1,2,3,4,5] : List Nat).Nodup; decide) rfl rfl (by decide) rfl rfl rfl rfl ⟨(Below.refl _ w3).drew, trivial⟩ ?_ ⟨?_, ?_, ?_, ?_, trivial⟩ ?_
      ·intro p hp vals w' hC a k
       simp only [List.mem_cons, List.not_mem_nil, or_false] at hp
       have hb2' : Below w2.heap.size w2 w' := hw3.trans (hC.1.mono hw3.size)
       rcases hp with rfl | rfl | rfl | rfl | rfl
       ·exact gv rfl rfl (rn_fieldAddr k rfl fo_fld7)
       ·exact gv rfl rfl (rn_load k rfl to_flds ((hbf _ hb2').cell0 (i := 7) rfl))
       ·exact gv rfl rfl (rn_move k rfl)
       ·exact gv rfl rfl (rn_move k rfl)
       ·exact gv rfl rfl (rn_loadBAgg k rfl ta_tree (hbt _ hb2'))
      ·rintro vals w' hvl ⟨hb', hC⟩ a k
       match vals, hvl with
       | [v7, v6, v0], _ => exact ⟨_, rfl, does_assign k rfl ⟨hb', hC⟩⟩
      ·rintro vals w' hvl ⟨hb', hC⟩ a k
       match vals, hvl with
       | [v6, v0], _ =>
        obtain ⟨ho0, ho6⟩ := hC
        exact ⟨_, rfl, does_appSl k tb_bytes tb_bytes rfl rfl ho6.bytes ho0 hb'.size (by simpa using hlim) (fun d' w'' ho'' hg'' => ⟨hb'.trans (hg''.below hb'.size ho0.ge), ho''⟩)⟩
      ·rintro vals w' hvl ⟨hb', hC⟩ a k
       match vals, hvl with
       | [v0], _ =>
        simp only [] at hC
        have hs3 := hb'.size
        refine ⟨_, rfl, does_call k rfl (by kernel_rfl) ((hp flex ver t w3.heap.size w' _ _ hok hs3 (hsub.below ((hw03.trans (hb'.mono hw03.size)).mono hB) (by omega)) (Rep.below ht ((hw03.trans (hb'.mono hw03.size)).mono hB) (by omega)) (by simp only [List.length_append] at hlim; omega)).mono ?_)⟩
        rintro e w'' ⟨v, rfl, hb'', ho⟩
        exact ⟨v, rfl, hb'.trans (hb''.mono hs3), Own.below hC hb'', ho.mono hs3⟩
      ·rintro vals w' hvl ⟨hb', hC⟩ a k
       match vals, hvl with
       | [], _ =>
        exact ⟨_, rfl, does_call k rfl (by kernel_rfl) ((fn_fixed 1 1 (by omega) w').mono (by rintro e w'' ⟨v, rfl, hb'', ho⟩; exact ⟨v, rfl, hb'.trans (hb''.mono hb'.size), ho.mono hb'.size⟩))⟩
      ·rintro vals w' hvl ⟨hb', hC⟩
       match vals, hvl with
       | [v8, v7, v6, v0], _ =>
        refine qk_thn ?_
        repeat (with_reducible first|apply wc_ret|apply qk_round_ret)
        exact qk_ret1 rfl rfl ⟨_, rfl, hw03.trans (hb'.mono (by have := hw03.size; omega)), Own.mono hC (by have := hw03.size; omega)⟩
     ·refine wc_yes rfl rfl ?_
      repeat (with_reducible first|apply wc_seq|apply wc_region)
      refine wl_call rfl (by kernel_rfl) rfl ((fn_fixed (-1) 1 (by omega) w3).mono ?_)
      rintro e w' ⟨v, rfl, hb, ho⟩
      refine ⟨v, rfl, ?_⟩
      repeat first|(with_reducible first|apply wl_nil|apply qk_thn|apply wc_ret|apply qk_thn_ret|apply qk_round_ret)|((with_reducible apply ws);exact rfl;exact rfl)
      exact qk_ret1 rfl rfl ⟨_, rfl, hw03.trans (hb.mono hw03.size), by simpa using ho.mono hw03.size⟩
    ·refine wc_no rfl (by simpa using hnl) ?_
     repeat (with_reducible apply wc_skip)
     exact qk_cut () ⟨rfl, rfl, rfl, rfl, rfl, trivial⟩ ⟨rfl, fun h => hnl h.2⟩
   ·have e10 : (f.kind == 10) = false := by simpa using h10
    rw [e10]
    repeat first|(with_reducible first|apply wl_nil|apply qk_thn)|((with_reducible apply ws);exact rfl;exact rfl)|((with_reducible apply wl_no);exact rfl;exact rfl;exact rfl;exact rfl)
    refine wc_no rfl rfl ?_
    repeat (with_reducible apply wc_skip)
    exact qk_cut () ⟨rfl, rfl, rfl, rfl, rfl, trivial⟩ ⟨rfl, fun h => h10 h.1⟩
  rintro _ w4 ⟨rfl, hno⟩
  rw [if_neg hno] at hlim ⊢
  repeat first|(with_reducible first|apply wc_seq|apply wc_region)|((with_reducible apply ws);exact rfl;exact rfl)
  refine wl_loadB rfl to_int rfl (hbf _ hw3) rfl ?_
  repeat ((with_reducible apply ws);exact rfl;exact rfl)
  refine wl_loadB rfl to_flds rfl (hbf _ hw3) rfl ?_
  repeat ((with_reducible apply ws);exact rfl;exact rfl)
  refine wl_loadBAgg (cs := [.int .i64 t.n, sv2, .bool t.nul, .slice la (t.l.map treeD).length lc, uv]) rfl ta_tree rfl (hbt _ hw3) ?_
  refine wl_call rfl (by kernel_rfl) rfl ((hv f.kind (f.null ver t) flex ver t B w4 _ _ hok hB3 (hsub.below (hw03.mono hB) (Nat.le_refl _)) (Rep.below ht (hw03.mono hB) (Nat.le_refl _)) hlim).mono ?_)
  rintro e w' ⟨v, rfl, hb, ho⟩
  refine ⟨v, rfl, ?_⟩
  repeat first|(with_reducible first|apply wl_nil|apply qk_thn|apply wc_ret)|((with_reducible apply ws);exact rfl;exact rfl)
  exact qk_ret1 rfl rfl ⟨_, rfl, hw03.trans (hb.mono hw03.size), ho.mono hw03.size⟩
end
end Go.Proofs.YtgpnpfiafcakfaaGreat

namespace Go.Proofs.YtgpnpfiafcakfaaGreat
open Go Go.RowKit
theorem usual_eq (f : Fld) (t : Tree) : usual f t =
  if f.kind = 0 then decide (t.n % 2 = f.df)
  else if f.kind = 7 then (t.s.take 16).all (· == 0)
  else if f.kind = 8 ∨ f.kind = 9 then (if 0 ≤ f.nul then t.nul else t.s.isEmpty)
  else if f.kind = 11 then t.l.isEmpty
  else if f.kind = 10 then usuals f.sub 0 t && (unknown f.sub t.u).isEmpty
  else be (width f.kind) t.n == be (width f.kind) f.df := by
 cases f
 simp only [usual, Fld.kind, Fld.nul, Fld.df, Fld.sub]
 rfl
theorem usuals_drop (fs : List Fld) (t : Tree) {i : Nat} (hi : i < fs.length) : usuals (fs.drop i) i t = (usual fs[i] (att t i) && usuals (fs.drop (i + 1)) (i + 1) t) := by
 rw [List.drop_eq_getElem_cons hi]
 simp only [usuals]
def UsualOK (f : Fld) : Prop := ∀ (t : Tree) (B : Nat) (w : World) (cs ts : List Value), t.ok → B ≤ w.heap.size → Rep (Lo B) w (fldD f) cs → Rep (Lo B) w (treeD t) ts →
 Fn 49 [.agg cs.toArray, .agg ts.toArray] w fun v _ => v = .bool (usual f t)
section
variable {P : Program} {N : Nat} {L : Sl} {a : Act} {w : World} {d : Option Nat} {ty : TypeId} {pos : String} {aft : Array Edge} {g : Option (Nat × Bool)}
theorem does_not {x : Operand} {t : TypeId} {b : Bool} {R : Value → World → Prop} (k : Kn N a L) (hx : ev L x = some (.bool b)) (h : R (.bool (!b)) w) : Does P ⟨d, .unOp .not t x, ty, pos, aft, g⟩ a w R := does_of (rn_not k hx) h
end
section
set_option maxRecDepth 100000
theorem usual_of (f : Fld) (hsubOK : fsok f.sub = true) (hu : ∀ g ∈ f.sub, UsualOK g) : UsualOK f := by
 intro t B w cs ts hok hB hf ht
 obtain ⟨sv, rfl, hsub⟩ := fld_cells hf
 obtain ⟨sv2, lv, uv, rfl, hs, hl, huu⟩ := tree_cells ht
 obtain ⟨la, lc, rfl, _⟩ := hl.shape
 obtain ⟨sa, sc, rfl, _⟩ := hs.shape
 rw [usual_eq]
 refine enter Tryz.func49 rfl Tryz.ntmps49 rfl ?_
 repeat (with_reducible first|apply wc_seq|apply wc_region)
 refine wl_box1 rfl rfl rfl (fun w1 hb1 hg1 hs1 => wl_box1 rfl rfl rfl (fun w2 hb2 hg2 hs2 => ?_))
 have hb4 := hb1.kept hg2 (by simp)
 have hw2 : Below w.heap.size w w2 := (below_of hg1 (Nat.le_refl _) (by simp)).trans (below_of hg2 (by omega) (by simp))
 have hB2 : B ≤ w2.heap.size := by omega
 have hbt : ∀ w', Below w2.heap.size w2 w' → Box w' w1.heap.size [.int .i64 t.n, .slice sa (t.s.map byteD).length sc, .bool t.nul, .slice la (t.l.map treeD).length lc, uv] 26 := fun w' h => hb2.below h (by omega)
 have hbf : ∀ w', Below w2.heap.size w2 w' → Box w' w.heap.size [.int .i64 f.kind, .int .i64 f.fr, .int .i64 f.upto, .int .i64 f.nul, .int .i64 f.tag, .int .i64 f.df, .int .i64 f.of, sv] 50 := fun w' h => hb4.below h (by omega)
 repeat first|(with_reducible first|apply wc_seq|apply wc_region|apply wl_nil|apply qk_thn)|((with_reducible apply ws);exact rfl;exact rfl)
 refine wl_loadB rfl to_int rfl hb4 rfl ?_
 repeat first|(with_reducible first|apply wc_seq|apply wc_region|apply wl_nil|apply qk_thn|apply wc_block)|((with_reducible apply ws);exact rfl;exact rfl)
 by_cases h0 : f.kind = 0
 ·refine wc_yes rfl (by simpa using h0) ?_
  rw [if_pos h0]
  repeat first|(with_reducible first|apply wc_seq|apply wc_region)|((with_reducible apply ws);exact rfl;exact rfl)
  refine wl_loadB rfl to_i64 rfl hb2 rfl ?_
  refine wl_and rfl rfl rfl (and1 t.n) ?_
  repeat ((with_reducible apply ws);exact rfl;exact rfl)
  refine wl_loadB rfl to_i64 rfl hb4 rfl ?_
  repeat first|(with_reducible first|apply wl_nil|apply qk_thn|apply wc_ret|apply qk_thn_ret|apply qk_in_ret)|((with_reducible apply ws);exact rfl;exact rfl)
  exact qk_ret1 rfl rfl ⟨_, rfl, hw2, by rw [Bool.beq_eq_decide_eq]⟩
 ·refine wc_no rfl (by simpa using h0) ?_
  rw [if_neg h0]
  repeat first|(with_reducible first|apply wc_seq|apply wc_region|apply wl_nil|apply qk_thn)|((with_reducible apply ws);exact rfl;exact rfl)
  by_cases h7 : f.kind = 7
  ·refine wc_yes rfl (by simpa using h7) ?_
   rw [if_pos h7]
   repeat first|(with_reducible first|apply wc_seq|apply wc_region)|((with_reducible apply ws);exact rfl;exact rfl)
   refine wl_loadB rfl to_bytes rfl hb2 rfl ?_
   repeat first|(with_reducible first|apply wl_nil|apply qk_thn|apply wc_block)|((with_reducible apply ws);exact rfl;exact rfl)
   rw [List.length_map] at *
   refine wc_loop (α := Nat) (fun i => [(24, .int .i64 (i : Int)), (23, .int .i64 (t.s.length : Int)), (22, .slice sa t.s.length sc)]) (fun i w' => i ≤ t.s.length ∧ ((t.s.take i).take 16).all (· == 0) = true ∧ Below w2.heap.size w2 w') (fun i => t.s.length - i) 0 ⟨rfl, rfl, rfl, trivial⟩ ⟨Nat.zero_le _, rfl, Below.refl _ _⟩ ?_
   rintro i w3 ⟨hi, hall, hw3⟩
   have hsl := hok.s
   repeat first|(with_reducible first|apply wc_seq|apply wc_region|apply wl_nil|apply qk_thn)|((with_reducible apply ws);exact rfl;exact rfl)
   by_cases hlt : i < t.s.length
   ·refine wc_yes rfl (by simpa using hlt) ?_
    repeat first|(with_reducible first|apply wc_seq|apply wc_region|apply qk_thn|apply wc_block|apply wc_skip)|((with_reducible apply ws);exact rfl;exact rfl)
    have hs3 : Sq B w3 (.slice sa t.s.length sc) (t.s.map byteD) := hs.below ((hw2.trans (hw3.mono (by omega))).mono hB) (Nat.le_refl _)
    obtain ⟨b1, o1, c1, hv1, hc1⟩ := hs3.bytes.get hlt
    simp only [Value.slice.injEq] at hv1
    obtain ⟨rfl, _, rfl⟩ := hv1
    refine wl_indexAddr rfl rfl es_bytes rfl hlt ?_
    refine wl_load rfl to_u8 rfl hc1 ?_
    repeat first|(with_reducible first|apply wc_seq|apply wc_region|apply wl_nil|apply qk_thn)|((with_reducible apply ws);exact rfl;exact rfl)
    by_cases h16 : i < 16
    ·have e16 : decide ((i : Int) < 16) = true := by simp; omega
     rw [e16]
     repeat first|(with_reducible first|apply wl_nil|apply qk_thn)|((with_reducible apply ws);exact rfl;exact rfl)|((with_reducible apply wl_yes);exact rfl;exact rfl;exact rfl)
     by_cases hz : t.s[i] = 0
     ·refine wc_no rfl (by rw [hz]; rfl) ?_
      repeat (with_reducible first|apply wc_region|apply qk_thn|apply wc_skip|apply qk_in)
      refine wl_add rfl rfl rfl (r := ((i + 1 : Nat) : Int)) (by rw [IntKind.wrap_i64]; omega) ?_
      repeat first|(with_reducible apply wl_nil)|((with_reducible apply ws);exact rfl;exact rfl)
      refine qk_round (i + 1) ⟨rfl, rfl, rfl, trivial⟩ ⟨by omega, ?_, hw3⟩ (by omega)
      rw [List.take_succ_eq_append_getElem hlt, List.take_of_length_le (by simp; omega)]
      rw [List.take_of_length_le (by simp; omega)] at hall
      simp [hall, hz]
     ·refine wc_yes rfl (by simp only [bne_iff_ne, ne_eq]; intro e; exact hz (UInt8.toNat_inj.1 (by simpa using e))) ?_
      repeat first|(with_reducible first|apply wc_seq|apply wc_region|apply wl_nil|apply qk_thn|apply wc_ret|apply qk_thn_ret|apply qk_in_ret|apply qk_round_ret)|((with_reducible apply ws);exact rfl;exact rfl)
      refine qk_ret1 rfl rfl ⟨_, rfl, hw2.trans (hw3.mono (by omega)), ?_⟩
      show Value.bool false = Value.bool _
      congr 1
      symm
      rw [List.all_eq_false]
      refine ⟨t.s[i], ?_, by simpa using hz⟩
      rw [List.mem_iff_getElem]
      exact ⟨i, by simp; omega, by simp⟩
    ·have e16 : decide ((i : Int) < 16) = false := by simp; omega
     rw [e16]
     repeat first|(with_reducible first|apply wl_nil|apply qk_thn)|((with_reducible apply ws);exact rfl;exact rfl)|((with_reducible apply wl_no);exact rfl;exact rfl;exact rfl;exact rfl)
     refine wc_no rfl rfl ?_
     repeat (with_reducible first|apply wc_region|apply qk_thn|apply wc_skip|apply qk_in)
     refine wl_add rfl rfl rfl (r := ((i + 1 : Nat) : Int)) (by rw [IntKind.wrap_i64]; omega) ?_
     repeat first|(with_reducible apply wl_nil)|((with_reducible apply ws);exact rfl;exact rfl)
     refine qk_round (i + 1) ⟨rfl, rfl, rfl, trivial⟩ ⟨by omega, ?_, hw3⟩ (by omega)
     rw [List.take_take, Nat.min_eq_left (by omega)]
     rw [List.take_take, Nat.min_eq_left (by omega)] at hall
     exact hall
   ·refine wc_no rfl (by simpa using hlt) ?_
    repeat first|(with_reducible first|apply wc_seq|apply wc_region|apply wl_nil|apply qk_thn|apply wc_ret|apply wc_exit|apply qk_thn_ret|apply qk_in_ret|apply qk_thn_exit|apply qk_in_exit|apply qk_round_exit)|((with_reducible apply ws);exact rfl;exact rfl)
    refine qk_ret1 rfl rfl ⟨_, rfl, hw2.trans (hw3.mono (by omega)), ?_⟩
    have hi2 : i = t.s.length := by omega
    rw [hi2, List.take_length] at hall
    show Value.bool true = Value.bool _
    rw [hall]
  ·refine wc_no rfl (by simpa using h7) ?_
   rw [if_neg h7]
   repeat first|(with_reducible first|apply wc_seq|apply wc_region|apply wl_nil|apply qk_thn)|((with_reducible apply ws);exact rfl;exact rfl)
   by_cases h89 : f.kind = 8 ∨ f.kind = 9
   ·rw [if_pos h89]
    refine wc_cutT (α := Unit) (fun _ => [(36, .bool true), (2, .pointer (some ⟨w.heap.size, 0, none⟩)), (3, .pointer (some ⟨w1.heap.size, 0, none⟩))]) (fun _ w' => w' = w2) ?_ ?_
    ·by_cases h8 : f.kind = 8
     ·refine wc_yes rfl (by simpa using h8) ?_
      repeat (with_reducible apply wc_skip)
      refine qk_cut () ⟨by rw [h8]; rfl, rfl, rfl, trivial⟩ rfl
     ·have h9 : f.kind = 9 := by rcases h89 with h | h; exact absurd h h8; exact h
      refine wc_no rfl (by simpa using h8) ?_
      repeat first|(with_reducible first|apply wc_region|apply wl_nil)|((with_reducible apply ws);exact rfl;exact rfl)
      refine qk_cut () ⟨by rw [h9]; rfl, rfl, rfl, trivial⟩ rfl
    rintro _ w3 rfl
    refine wc_yes rfl rfl ?_
    repeat first|(with_reducible first|apply wc_seq|apply wc_region)|((with_reducible apply ws);exact rfl;exact rfl)
    refine wl_loadB rfl to_int rfl hb4 rfl ?_
    repeat first|(with_reducible first|apply wl_nil|apply qk_thn)|((with_reducible apply ws);exact rfl;exact rfl)
    by_cases hnl : 0 ≤ f.nul
    ·refine wc_yes rfl (by simpa using hnl) ?_
     rw [if_pos hnl]
     repeat first|(with_reducible first|apply wc_seq|apply wc_region)|((with_reducible apply ws);exact rfl;exact rfl)
     refine wl_loadB rfl to_bool rfl hb2 rfl ?_
     repeat first|(with_reducible first|apply wl_nil|apply qk_thn|apply wc_ret|apply qk_thn_ret|apply qk_in_ret)|((with_reducible apply ws);exact rfl;exact rfl)
     exact qk_ret1 rfl rfl ⟨_, rfl, hw2, rfl⟩
    ·refine wc_no rfl (by simpa using hnl) ?_
     rw [if_neg hnl]
     repeat first|(with_reducible first|apply wc_seq|apply wc_region|apply qk_thn|apply wc_skip)|((with_reducible apply ws);exact rfl;exact rfl)
     refine wl_loadB rfl to_bytes rfl hb2 rfl ?_
     repeat first|(with_reducible first|apply wl_nil|apply qk_thn|apply wc_ret|apply qk_thn_ret|apply qk_in_ret)|((with_reducible apply ws);exact rfl;exact rfl)
     refine qk_ret1 rfl rfl ⟨_, rfl, hw2, ?_⟩
     show Value.bool _ = Value.bool _
     congr 1
     cases t.s <;> simp
     omega
   ·rw [if_neg h89]
    have h8 : f.kind ≠ 8 := fun h => h89 (.inl h)
    have h9 : f.kind ≠ 9 := fun h => h89 (.inr h)
    refine wc_cutT (α := Unit) (fun _ => [(36, .bool false), (10, .int .i64 f.kind), (2, .pointer (some ⟨w.heap.size, 0, none⟩)), (3, .pointer (some ⟨w1.heap.size, 0, none⟩))]) (fun _ w' => w' = w2) ?_ ?_
    ·refine wc_no rfl (by simpa using h8) ?_
     repeat first|(with_reducible first|apply wc_region|apply wl_nil)|((with_reducible apply ws);exact rfl;exact rfl)
     refine qk_cut () ⟨?_, rfl, rfl, rfl, trivial⟩ rfl
     show some (Value.bool (f.kind == 9)) = some (Value.bool false)
     rw [show (f.kind == 9) = false from by simpa using h9]
    rintro _ w3 h3
    obtain rfl := h3.symm
    refine wc_no rfl rfl ?_
    repeat first|(with_reducible first|apply wc_seq|apply wc_region|apply wl_nil|apply qk_thn)|((with_reducible apply ws);exact rfl;exact rfl)
    by_cases h11 : f.kind = 11
    ·refine wc_yes rfl (by simpa using h11) ?_
     rw [if_pos h11]
     repeat first|(with_reducible first|apply wc_seq|apply wc_region)|((with_reducible apply ws);exact rfl;exact rfl)
     refine wl_loadB rfl to_trees rfl hb2 rfl ?_
     repeat first|(with_reducible first|apply wl_nil|apply qk_thn|apply wc_ret|apply qk_thn_ret|apply qk_in_ret)|((with_reducible apply ws);exact rfl;exact rfl)
     refine qk_ret1 rfl rfl ⟨_, rfl, hw2, ?_⟩
     show Value.bool _ = Value.bool _
     congr 1
     cases t.l <;> simp
     omega
    ·refine wc_no rfl (by simpa using h11) ?_
     rw [if_neg h11]
     repeat first|(with_reducible first|apply wc_seq|apply wc_region|apply wl_nil|apply qk_thn)|((with_reducible apply ws);exact rfl;exact rfl)
     by_cases h10 : f.kind = 10
     ·refine wc_yes rfl (by simpa using h10) ?_
      rw [if_pos h10]
      repeat first|(with_reducible first|apply wc_seq|apply wc_region)|((with_reducible apply ws);exact rfl;exact rfl)
      refine wl_loadB rfl to_flds rfl hb4 rfl ?_
      obtain ⟨fa, fc, rfl, _⟩ := hsub.shape
      rw [List.length_map] at *
      repeat first|(with_reducible first|apply wl_nil|apply qk_thn|apply wc_block)|((with_reducible apply ws);exact rfl;exact rfl)
      refine wc_loop (α := Nat) (fun i => [(59, .int .i64 (i : Int)), (58, .int .i64 (f.sub.length : Int)), (57, .slice fa f.sub.length fc), (2, .pointer (some ⟨w.heap.size, 0, none⟩)), (3, .pointer (some ⟨w1.heap.size, 0, none⟩))]) (fun i w' => i ≤ f.sub.length ∧ usuals f.sub 0 t = usuals (f.sub.drop i) i t ∧ Below w2.heap.size w2 w') (fun i => f.sub.length - i) 0 ⟨rfl, rfl, rfl, rfl, rfl, trivial⟩ ⟨Nat.zero_le _, rfl, Below.refl _ _⟩ ?_
      rintro i w3 ⟨hi, hall, hw3⟩
      have hfl := fsok.len hsubOK
      have hw03 : Below w.heap.size w w3 := hw2.trans (hw3.mono (by omega))
      have hB3 : B ≤ w3.heap.size := by have := hw3.size; omega
      have hs23 := hw3.size
      repeat first|(with_reducible first|apply wc_seq|apply wc_region|apply wl_nil|apply qk_thn)|((with_reducible apply ws);exact rfl;exact rfl)
      by_cases hlt : i < f.sub.length
      ·refine wc_yes rfl (by simpa using hlt) ?_
       obtain ⟨b, off, c', cs, hv, _, hcs, hlen, hr⟩ := (hsub.below (hw03.mono hB) (Nat.le_refl _)).get (sz := 8) (i := i) (by intro d hd; obtain ⟨x, _, rfl⟩ := List.mem_map.1 hd; exact fldD_width x) (by simpa using hlt)
       simp only [Value.slice.injEq, List.length_map] at hv
       obtain ⟨rfl, _, rfl⟩ := hv
       simp only [List.getElem_map] at hr
       obtain ⟨hone, _⟩ := fld_one hr
       repeat first|(with_reducible first|apply wc_seq|apply wc_region|apply qk_thn|apply wc_block|apply wc_skip)|((with_reducible apply ws);exact rfl;exact rfl)
       refine wl_indexAddr rfl rfl es_flds rfl hlt ?_
       refine wl_loadAgg rfl (by rw [hlen]; exact ta_fld) rfl (fun j v e => hcs.cell e) ?_
       refine wl_alloc zv_fld rfl rfl (fun w4 hbx4 hg4 hs4 => ?_)
       repeat ((with_reducible apply ws);exact rfl;exact rfl)
       refine wl_storeBAgg rfl rfl rfl (by rw [hlen]; exact tz_fld) hone hbx4 (by rw [hlen]; rfl) (fun w5 hbx5 hg5 hs5 => ?_)
       have hw35 : Below w3.heap.size w3 w5 := (below_of hg4 (Nat.le_refl _) (by simp)).trans (below_of hg5 (by omega) (by intro k hk; simp at hk; omega))
       have hw05 : Below w.heap.size w w5 := hw03.trans (hw35.mono (by omega))
       have hw25 : Below w2.heap.size w2 w5 := hw3.trans (hw35.mono (by omega))
       repeat (with_reducible first|apply wc_seq|apply wl_nil|apply qk_thn)
       refine wc_par [(0, .agg cs.toArray), (1, .agg ([.int .i64 t.n, .slice sa t.s.length sc, .bool t.nul, .slice la t.l.length lc, uv] : List Value).toArray), (2, .int .i64 (i : Int))] [5, 4, 3]
        (fun vals w' => Below w5.heap.size w5 w' ∧ match vals with
         | [] => True
         | [v] => ∃ xs : List Value, v = .agg xs.toArray ∧ Rep (Lo B) w' (treeD (att t i)) xs
         | [v, _] => v = .bool (usual f.sub[i] (att t i))
         | v :: _ => v = .bool (!usual f.sub[i] (att t i)))
        mixed rfl rfl rfl rfl rfl (by show ([0,1,2] : List Nat).Nodup; decide) rfl rfl (by decide) rfl rfl rfl rfl ⟨(Below.refl _ w5).drew, trivial⟩ ?_ ⟨?_, ?_, ?_, trivial⟩ ?_
       ·intro p hp vals w' hC a k
        simp only [List.mem_cons, List.not_mem_nil, or_false] at hp
        rcases hp with rfl | rfl | rfl
        ·exact gv rfl rfl (rn_loadBAgg k rfl (by rw [hlen]; exact ta_fld) (hbx5.below hC.1 (by omega)))
        ·exact gv rfl rfl (rn_loadBAgg k rfl (by rw [show ([.int .i64 t.n, .slice sa t.s.length sc, .bool t.nul, .slice la t.l.length lc, uv] : List Value).length = 5 from rfl]; exact ta_tree) (by have := hbt _ (hw25.trans (hC.1.mono (by omega))); rw [List.length_map] at this; exact this))
        ·exact gv rfl rfl (rn_move k rfl)
       ·rintro vals w' hvl ⟨hb', hC⟩ a k
        match vals, hvl with
        | [v4, v3], _ =>
         simp only [] at hC
         subst hC
         exact ⟨_, rfl, does_not k rfl ⟨hb', rfl⟩⟩
       ·rintro vals w' hvl ⟨hb', hC⟩ a k
        match vals, hvl with
        | [v3], _ =>
         obtain ⟨xs, rfl, hxr⟩ := hC
         refine ⟨_, rfl, does_call k rfl (by kernel_rfl) ((hu f.sub[i] (List.getElem_mem hlt) (att t i) B w' _ _ (hok.at i) (by have := hb'.size; omega) (Rep.below hr ((hw35.trans (hb'.mono (by omega))).mono hB3) (Nat.le_refl _)) hxr).mono ?_)⟩
         rintro e w'' ⟨v, rfl, hb'', rfl⟩
         exact ⟨_, rfl, hb'.trans (hb''.mono hb'.size), rfl⟩
       ·rintro vals w' hvl ⟨hb', hC⟩ a k
        match vals, hvl with
        | [], _ =>
         refine ⟨_, rfl, does_call k rfl (by kernel_rfl) ((fn_at t i B w' (by have := hb'.size; omega) _ (by have := Rep.below ht ((hw05.trans (hb'.mono (by omega))).mono hB) (Nat.le_refl _); rw [List.length_map] at this; exact this)).mono ?_)⟩
         rintro e w'' ⟨v, rfl, hb'', xs, rfl, hxr⟩
         exact ⟨_, rfl, hb'.trans (hb''.mono hb'.size), xs, rfl, hxr⟩
       ·rintro vals w' hvl ⟨hb', hC⟩
        match vals, hvl with
        | [v5, v4, v3], _ =>
         simp only [] at hC
         subst hC
         refine qk_thn ?_
         have hdr := usuals_drop f.sub t hlt
         cases hus : usual f.sub[i] (att t i)
         ·refine wc_yes rfl rfl ?_
          repeat first|(with_reducible first|apply wc_seq|apply wc_region|apply wl_nil|apply qk_thn|apply wc_ret|apply qk_thn_ret|apply qk_in_ret|apply qk_round_ret)|((with_reducible apply ws);exact rfl;exact rfl)
          refine qk_ret1 rfl rfl ⟨_, rfl, hw05.trans (hb'.mono (by omega)), ?_⟩
          rw [hall, hdr, hus]; simp
         ·refine wc_no rfl rfl ?_
          repeat (with_reducible first|apply wc_region|apply qk_thn|apply wc_skip|apply qk_in)
          refine wl_add rfl rfl rfl (r := ((i + 1 : Nat) : Int)) (by rw [IntKind.wrap_i64]; omega) ?_
          repeat first|(with_reducible apply wl_nil)|((with_reducible apply ws);exact rfl;exact rfl)
          refine qk_round (i + 1) ⟨rfl, rfl, rfl, rfl, rfl, trivial⟩ ⟨by omega, ?_, hw25.trans (hb'.mono (by omega))⟩ (by omega)
          rw [hall, hdr, hus]; simp
      ·refine wc_no rfl (by simpa using hlt) ?_
       repeat first|(with_reducible first|apply wc_seq|apply wc_region|apply qk_thn|apply wc_exit|apply qk_thn_exit|apply qk_in_exit|apply qk_round_exit)|((with_reducible apply ws);exact rfl;exact rfl)
       refine wl_loadB rfl to_flds rfl (hbf _ hw3) rfl ?_
       repeat ((with_reducible apply ws);exact rfl;exact rfl)
       refine wl_loadB rfl to_tags rfl (hbt _ hw3) rfl ?_
       refine wl_call rfl (by kernel_rfl) rfl ((fn_unknown _ _ f.sub t.u B w3 hB3 (hsub.below (hw03.mono hB) (Nat.le_refl _)) (huu.below (hw03.mono hB) (Nat.le_refl _)) (fsok.tag hsubOK) (by omega)).mono ?_)
       rintro e w4 ⟨v, rfl, hw4, hsq⟩
       refine ⟨_, rfl, ?_⟩
       obtain ⟨va, vc, rfl, _⟩ := hsq.shape
       rw [List.length_map]
       repeat first|(with_reducible first|apply wl_nil|apply qk_thn|apply wc_ret|apply qk_thn_ret|apply qk_in_ret)|((with_reducible apply ws);exact rfl;exact rfl)
       refine qk_ret1 rfl rfl ⟨_, rfl, hw03.trans (hw4.mono hw03.size), ?_⟩
       show Value.bool _ = Value.bool _
       congr 1
       rw [hall, List.drop_of_length_le (by omega)]
       simp only [usuals, Bool.true_and]
       cases unknown f.sub t.u <;> simp
       omega
     ·refine wc_no rfl (by simpa using h10) ?_
      rw [if_neg h10]
      repeat (with_reducible first|apply wc_seq|apply qk_thn|apply wc_skip|apply qk_in)
      refine wc_par [(0, .pointer (some ⟨w1.heap.size, 0 + 0, none⟩)), (1, .int .i64 t.n), (2, .pointer (some ⟨w.heap.size, 0 + 0, none⟩)), (3, .int .i64 f.kind), (6, .pointer (some ⟨w.heap.size, 0 + 5, none⟩)), (7, .int .i64 f.df), (8, .pointer (some ⟨w.heap.size, 0 + 0, none⟩)), (9, .int .i64 f.kind)] [13, 12, 11, 10, 5, 4]
       (fun vals w' => Below w2.heap.size w2 w' ∧ match vals with
        | [] => True
        | [v4] => v4 = .int .i64 (width f.kind : Nat)
        | [v5, _] => Own w' w2.heap.size 5 v5 (be (width f.kind) t.n)
        | [v10, v5, _] => Own w' w2.heap.size 5 v5 (be (width f.kind) t.n) ∧ v10 = .int .i64 (width f.kind : Nat)
        | [v11, _, v5, _] => Own w' w2.heap.size 5 v5 (be (width f.kind) t.n) ∧ Own w' w2.heap.size 5 v11 (be (width f.kind) f.df)
        | v :: _ => v = .bool (be (width f.kind) t.n == be (width f.kind) f.df))
       mixed rfl rfl rfl rfl rfl (by show ([0,1,2,3,6,7,8,9] : List Nat).Nodup; decide) rfl rfl (by decide) rfl rfl rfl rfl ⟨(Below.refl _ w2).drew, trivial⟩ ?_ ⟨?_, ?_, ?_, ?_, ?_, ?_, trivial⟩ ?_
      ·intro p hp vals w' hC a k
       simp only [List.mem_cons, List.not_mem_nil, or_false] at hp
       rcases hp with rfl | rfl | rfl | rfl | rfl | rfl | rfl | rfl
       ·exact gv rfl rfl (rn_fieldAddr k rfl fo_tree0)
       ·exact gv rfl rfl (rn_load k rfl to_i64 ((hbt _ hC.1).cell0 (i := 0) rfl))
       ·exact gv rfl rfl (rn_fieldAddr k rfl fo_fld0)
       ·exact gv rfl rfl (rn_load k rfl to_int ((hbf _ hC.1).cell0 (i := 0) rfl))
       ·exact gv rfl rfl (rn_fieldAddr k rfl fo_fld5)
       ·exact gv rfl rfl (rn_load k rfl to_i64 ((hbf _ hC.1).cell0 (i := 5) rfl))
       ·exact gv rfl rfl (rn_fieldAddr k rfl fo_fld0)
       ·exact gv rfl rfl (rn_load k rfl to_int ((hbf _ hC.1).cell0 (i := 0) rfl))
      ·rintro vals w' hvl ⟨hb', hC⟩ a k
       match vals, hvl with
       | [v12, v11, v10, v5, v4], _ => exact ⟨_, rfl, does_assign k rfl ⟨hb', hC⟩⟩
      ·rintro vals w' hvl ⟨hb', hC⟩ a k
       match vals, hvl with
       | [v11, v10, v5, v4], _ =>
        obtain ⟨ho5, ho11⟩ := hC
        refine ⟨_, rfl, does_call k rfl (by kernel_rfl) ((fn_same _ _ _ _ w' ho5.bytes ho11.bytes (by rw [be_length]; exact Nat.le_trans (width_le _) (by decide)) (by rw [be_length]; exact Nat.le_trans (width_le _) (by decide))).mono ?_)⟩
        rintro e w'' ⟨v, rfl, hb'', rfl⟩
        exact ⟨_, rfl, hb'.trans (hb''.mono hb'.size), rfl⟩
      ·rintro vals w' hvl ⟨hb', hC⟩ a k
       match vals, hvl with
       | [v10, v5, v4], _ =>
        obtain ⟨ho5, rfl⟩ := hC
        refine ⟨_, rfl, does_call k rfl (by kernel_rfl) ((fn_fixed f.df (width f.kind) (width_le _) w').mono ?_)⟩
        rintro e w'' ⟨v, rfl, hb'', ho⟩
        exact ⟨_, rfl, hb'.trans (hb''.mono hb'.size), ho5.below hb'', ho.mono hb'.size⟩
      ·rintro vals w' hvl ⟨hb', hC⟩ a k
       match vals, hvl with
       | [v5, v4], _ =>
        simp only [] at hC
        refine ⟨_, rfl, does_call k rfl (by kernel_rfl) ((fn_width f.kind w').mono ?_)⟩
        rintro e w'' ⟨v, rfl, hb'', rfl, rfl⟩
        exact ⟨_, rfl, hb', hC, rfl⟩
      ·rintro vals w' hvl ⟨hb', hC⟩ a k
       match vals, hvl with
       | [v4], _ =>
        simp only [] at hC
        subst hC
        refine ⟨_, rfl, does_call k rfl (by kernel_rfl) ((fn_fixed t.n (width f.kind) (width_le _) w').mono ?_)⟩
        rintro e w'' ⟨v, rfl, hb'', ho⟩
        exact ⟨_, rfl, hb'.trans (hb''.mono hb'.size), ho.mono hb'.size⟩
      ·rintro vals w' hvl ⟨hb', hC⟩ a k
       match vals, hvl with
       | [], _ =>
        refine ⟨_, rfl, does_call k rfl (by kernel_rfl) ((fn_width f.kind w').mono ?_)⟩
        rintro e w'' ⟨v, rfl, hb'', rfl, rfl⟩
        exact ⟨_, rfl, hb', rfl⟩
      ·rintro vals w' hvl ⟨hb', hC⟩
       match vals, hvl with
       | [v13, v12, v11, v10, v5, v4], _ =>
        simp only [] at hC
        subst hC
        refine qk_thn ?_
        repeat (with_reducible apply wc_ret)
        exact qk_ret1 rfl rfl ⟨_, rfl, hw2.trans (hb'.mono (by omega)), rfl⟩
end
end Go.Proofs.YtgpnpfiafcakfaaGreat

namespace Go.Proofs.YtgpnpfiafcakfaaGreat
open Go Go.RowKit
theorem wFs_drop (ver : Int) (flex : Bool) (fs : List Fld) (t : Tree) {i : Nat} (hi : i < fs.length) : wFs ver flex (fs.drop i) i t =
    (if fs[i].tag < 0 ∧ fs[i].has ver = true then wField ver flex fs[i] (att t i) else []) ++ wFs ver flex (fs.drop (i + 1)) (i + 1) t := by
  rw [List.drop_eq_getElem_cons hi]
  simp only [wFs]
theorem wTs_drop (ver : Int) (flex : Bool) (fs : List Fld) (k : Nat) (t : Tree) {i : Nat} (hi : i < fs.length) : wTs ver flex (fs.drop i) i k t =
    (if fs[i].tag = (k : Int) ∧ usual fs[i] (att t i) = false then [(k, wField ver flex fs[i] (att t i))] else []) ++ wTs ver flex (fs.drop (i + 1)) (i + 1) k t := by
  rw [List.drop_eq_getElem_cons hi]
  simp only [wTs]
def tagB (l : List (Nat × List UInt8)) : List UInt8 := l.flatMap fun kv => wTag kv.1 kv.2
theorem tagB_append (a b : List (Nat × List UInt8)) : tagB (a ++ b) = tagB a ++ tagB b := by simp [tagB]
theorem tagB_one (k : Nat) (b : List UInt8) : tagB [(k, b)] = wTag k b := by simp [tagB]
theorem tagB_len (l : List (Nat × List UInt8)) : l.length ≤ (tagB l).length := by
  induction l with
  | nil => simp
  | cons a l ih =>
    have : tagB (a :: l) = wTag a.1 a.2 ++ tagB l := by simp [tagB]
    rw [this]
    have := uvar_pos a.1
    simp only [List.length_cons, List.length_append, wTag]; omega
theorem wTag_len (k : Nat) (b : List UInt8) : b.length ≤ (wTag k b).length := by simp [wTag]; omega
def below (ver : Int) (flex : Bool) (fs : List Fld) (t : Tree) (m : Nat) : List (Nat × List UInt8) := (List.range m).flatMap fun k => wTs ver flex fs 0 k t
theorem below_succ (ver : Int) (flex : Bool) (fs : List Fld) (t : Tree) (m : Nat) : below ver flex fs t (m + 1) = below ver flex fs t m ++ wTs ver flex fs 0 m t := by
  simp [below, List.range_succ]
theorem below_le (ver : Int) (flex : Bool) (fs : List Fld) (t : Tree) {m n : Nat} (h : m ≤ n) : (tagB (below ver flex fs t m)).length ≤ (tagB (below ver flex fs t n)).length := by
  induction n with
  | zero => have : m = 0 := by omega
            subst this; exact Nat.le_refl _
  | succ n ih =>
    by_cases h1 : m = n + 1
    · subst h1; exact Nat.le_refl _
    · have := ih (by omega)
      rw [below_succ, tagB_append, List.length_append]; omega
theorem allTags_eq (ver : Int) (flex : Bool) (fs : List Fld) (t : Tree) : allTags ver flex fs t = below ver flex fs t (known fs) ++ others fs t.u := rfl
theorem wPart_false (ver : Int) (fs : List Fld) (t : Tree) : wPart ver false fs t = wFs ver false fs 0 t := rfl
theorem wPart_true (ver : Int) (fs : List Fld) (t : Tree) : wPart ver true fs t = wFs ver true fs 0 t ++ (uvar (allTags ver true fs t).length ++ tagB (allTags ver true fs t)) := rfl
theorem putTag_mem (k : Nat) (v : List UInt8) (l : List (Nat × List UInt8)) : ∀ x ∈ putTag k v l, x = (k, v) ∨ x ∈ l := by
  induction l with
  | nil => intro x hx; simp [putTag] at hx; exact .inl hx
  | cons a l ih =>
    intro x hx
    simp only [putTag] at hx
    split at hx
    · rcases List.mem_cons.1 hx with rfl | h
      · exact .inr (by simp)
      · rcases ih x h with h | h
        · exact .inl h
        · exact .inr (by simp [h])
    · split at hx
      · exact .inr hx
      · rcases List.mem_cons.1 hx with rfl | h
        · exact .inl rfl
        · exact .inr h
theorem unknown_mem (fs : List Fld) (u : List (Nat × List UInt8)) : ∀ x ∈ unknown fs u, x ∈ u := by
  have : ∀ (l out : List (Nat × List UInt8)), ∀ x ∈ l.foldl (step (known fs)) out, x ∈ out ∨ x ∈ l := by
    intro l
    induction l with
    | nil => intro out x hx; exact .inl hx
    | cons a l ih =>
      intro out x hx
      rcases ih _ x hx with h | h
      · unfold step at h
        split at h
        · exact .inl h
        · rcases putTag_mem _ _ _ x h with rfl | h
          · exact .inr (by simp)
          · exact .inl h
      · exact .inr (by simp [h])
  intro x hx
  rcases this (u.take Most) [] x hx with h | h
  · cases h
  · exact List.mem_of_mem_take h
theorem unknown_len (fs : List Fld) (u : List (Nat × List UInt8)) : (unknown fs u).length ≤ 32767 := by
  have := step_fold_length (known fs) (u.take Most) []
  simp only [List.length_nil, List.length_take, Nat.zero_add] at this
  exact Nat.le_trans this (Nat.min_le_left _ _)
theorem apart_of {v d : Value} {n : Nat} (hv : ∀ g, v.ownBlock = some g → n ≤ g) (hd : ∀ g, d.ownBlock = some g → g < n) : v.ownBlock = none ∨ v.ownBlock ≠ d.ownBlock := by
  cases h : v.ownBlock with
  | none => exact .inl rfl
  | some g => exact .inr (fun e => by have h1 := hv g h; have h2 := hd g e.symm; omega)
theorem Own.apart {w w' : World} {B u8 : Nat} {v d d' : Value} {ys : List UInt8} (hv : Own w B u8 v ys) (hd : v.ownBlock = none ∨ v.ownBlock ≠ d.ownBlock) (hg : Grew w w' d d') : Own w' B u8 v ys ∧ (v.ownBlock = none ∨ v.ownBlock ≠ d'.ownBlock) := by
  refine ⟨hv.kept hg.grown hd, ?_⟩
  rcases hd with h | h
  · exact .inl h
  · rcases hg.fresh with hf | hf
    · exact .inr (by rw [hf]; exact h)
    · cases hvb : v.ownBlock with
      | none => exact .inl rfl
      | some g => exact .inr (fun e => by have h1 := hf g e.symm; have h2 := hv.lt g hvb; omega)
theorem does_pick {P : Program} {N : Nat} {L : Sl} {a : Act} {w : World} {d : Option Nat} {ty : TypeId} {pos : String} {aft : Array Edge} {g : Option (Nat × Bool)} {c x y : Operand} {b : Bool} {v : Value} {R : Value → World → Prop} (k : Kn N a L) (hc : ev L c = some (.bool b)) (hv : ev L (bif b then x else y) = some v) (h : R v w) : Does P ⟨d, .pick c x y, ty, pos, aft, g⟩ a w R := does_of (rn_pick k hc hv) h
theorem Below.between {n : Nat} {a b c : World} (h : Below n a b) (k : Below n a c) (hs : b.heap.size ≤ c.heap.size) : Below n b c :=
  ⟨k.os.trans h.os.symm, k.tape.trans h.tape.symm, k.output.trans h.output.symm, hs, fun i hi => (k.block i hi).trans (h.block i hi).symm⟩
structure PtS where
  i : Nat
  d : Value
  xs : List UInt8
structure PtT where
  k : Nat
  d : Value
  l : List (Nat × List UInt8)
section
set_option maxRecDepth 100000
theorem part_of (fs : List Fld) (hfs : fsok fs = true) (hF : ∀ f ∈ fs, FieldOK f) (hU : ∀ f ∈ fs, UsualOK f) : PartOK fs := by
  intro flex ver t B w fv ts hok hB hf ht hlim
  obtain ⟨sv2, lv, uv, rfl, hs, hl, hu⟩ := tree_cells ht
  obtain ⟨fa, fc, rfl, _⟩ := hf.shape
  have hn := fsok.len hfs
  rw [List.length_map] at *
  have hFs : (wFs ver flex fs 0 t).length ≤ lim := by
    cases flex
    · exact hlim
    · rw [wPart_true, List.length_append] at hlim; omega
  refine enter Tryz.func24 rfl Tryz.ntmps24 rfl ?_
  repeat (with_reducible first|apply wc_seq|apply wc_region)
  refine wl_box1 rfl rfl rfl (fun w1 hb1 hg1 hs1 => ?_)
  have hw1 : Below w.heap.size w w1 := below_of hg1 (Nat.le_refl _) (by simp)
  refine wl_assign rfl rfl (wl_nil (qk_thn ?_))
  refine wc_seq (wc_region ?_)
  repeat ((with_reducible apply ws);exact rfl;exact rfl)
  refine wl_nil (qk_thn (wc_seq (wc_region ?_)))
  repeat ((with_reducible apply ws);exact rfl;exact rfl)
  refine wl_nil (qk_thn ?_)
  refine wc_cut (α := PtS) (fun s => [(9, s.d), (10, .slice none 0 0), (11, .int .i64 0), (7, .pointer (some ⟨w.heap.size, 0, none⟩)), (2, .bool flex), (1, .int .i64 ver), (0, .slice fa fs.length fc)])
    (fun s w' => Below w1.heap.size w1 w' ∧ Own w' w1.heap.size 5 s.d (wFs ver flex fs 0 t)) ?_ ?_
  · repeat first|(with_reducible first|apply wc_seq|apply wc_region|apply wl_nil|apply qk_thn|apply wc_block)|((with_reducible apply ws);exact rfl;exact rfl)
    refine wc_loop (α := PtS) (fun s => [(23, .int .i64 (s.i : Int)), (22, .int .i64 (fs.length : Int)), (21, .slice fa fs.length fc), (9, s.d), (10, .slice none 0 0), (11, .int .i64 0), (7, .pointer (some ⟨w.heap.size, 0, none⟩)), (2, .bool flex), (1, .int .i64 ver), (0, .slice fa fs.length fc)])
      (fun s w' => s.i ≤ fs.length ∧ Below w1.heap.size w1 w' ∧ Own w' w1.heap.size 5 s.d s.xs ∧ s.xs ++ wFs ver flex (fs.drop s.i) s.i t = wFs ver flex fs 0 t) (fun s => fs.length - s.i) ⟨0, .slice none 0 0, []⟩ ⟨rfl, rfl, rfl, rfl, rfl, rfl, rfl, rfl, rfl, rfl, trivial⟩ ⟨Nat.zero_le _, Below.refl _ _, Own.nil _ _ _, rfl⟩ ?_
    rintro ⟨i, d, xs⟩ w2 ⟨hi, hw2, ho2, hx⟩
    simp only [] at hi ho2 hx
    change WC _ _ _ _ [(23, .int .i64 (i : Int)), (22, .int .i64 (fs.length : Int)), (21, .slice fa fs.length fc), (9, d), (10, .slice none 0 0), (11, .int .i64 0), (7, .pointer (some ⟨w.heap.size, 0, none⟩)), (2, .bool flex), (1, .int .i64 ver), (0, .slice fa fs.length fc)] _
    have hw02 : Below w.heap.size w w2 := hw1.trans (hw2.mono (by omega))
    repeat first|(with_reducible first|apply wc_seq|apply wc_region|apply wl_nil|apply qk_thn)|((with_reducible apply ws);exact rfl;exact rfl)
    by_cases hlt : i < fs.length
    · refine wc_yes rfl (by simpa using hlt) ?_
      obtain ⟨b, off, c', cs, hv, _, hcs, hlen, hr⟩ := (hf.below (hw02.mono hB) (Nat.le_refl _)).get (sz := 8) (i := i) (by intro d hd; obtain ⟨x, _, rfl⟩ := List.mem_map.1 hd; exact fldD_width x) (by simpa using hlt)
      simp only [Value.slice.injEq, List.length_map] at hv
      obtain ⟨rfl, _, rfl⟩ := hv
      simp only [List.getElem_map] at hr
      obtain ⟨hone, _⟩ := fld_one hr
      obtain ⟨sv, hce, _⟩ := fld_cells hr
      subst hce
      have hdr := wFs_drop ver flex fs t hlt
      repeat first|(with_reducible first|apply wc_seq|apply wc_region|apply qk_thn|apply wc_block|apply wc_skip)|((with_reducible apply ws);exact rfl;exact rfl)
      refine wl_indexAddr rfl rfl es_flds rfl hlt ?_
      refine wl_loadAgg (cs := [.int .i64 fs[i].kind, .int .i64 fs[i].fr, .int .i64 fs[i].upto, .int .i64 fs[i].nul, .int .i64 fs[i].tag, .int .i64 fs[i].df, .int .i64 fs[i].of, sv]) rfl ta_fld rfl (fun j v e => hcs.cell e) ?_
      refine wl_alloc zv_fld rfl rfl (fun w3 hb3 hg3 hs3 => ?_)
      repeat ((with_reducible apply ws);exact rfl;exact rfl)
      refine wl_storeBAgg (vs := [.int .i64 fs[i].kind, .int .i64 fs[i].fr, .int .i64 fs[i].upto, .int .i64 fs[i].nul, .int .i64 fs[i].tag, .int .i64 fs[i].df, .int .i64 fs[i].of, sv]) rfl rfl rfl tz_fld hone hb3 rfl (fun w4 hb4 hg4 hs4 => ?_)
      have hw24 : Below w2.heap.size w2 w4 := (below_of hg3 (Nat.le_refl _) (by simp)).trans (below_of hg4 (by omega) (by intro k hk; simp at hk; omega))
      have hs12 := hw2.size
      have hw14 : Below w1.heap.size w1 w4 := hw2.trans (hw24.mono hs12)
      have hw04 : Below w.heap.size w w4 := hw02.trans (hw24.mono (by omega))
      have ho4 := ho2.below hw24
      have hB4 : B ≤ w4.heap.size := by omega
      repeat first|(with_reducible first|apply wc_seq|apply wc_region|apply wl_nil|apply qk_thn)|((with_reducible apply ws);exact rfl;exact rfl)
      refine wl_loadB rfl to_int rfl hb4 rfl ?_
      repeat ((with_reducible apply ws);exact rfl;exact rfl)
      by_cases htag : fs[i].tag < 0
      · have e1 : decide (fs[i].tag < 0) = true := by simpa using htag
        rw [e1]
        repeat ((with_reducible apply wl_yes);exact rfl;exact rfl;exact rfl)
        refine wl_loadBAgg (cs := [.int .i64 fs[i].kind, .int .i64 fs[i].fr, .int .i64 fs[i].upto, .int .i64 fs[i].nul, .int .i64 fs[i].tag, .int .i64 fs[i].df, .int .i64 fs[i].of, sv]) rfl ta_fld rfl hb4 ?_
        repeat first|((with_reducible apply ws);exact rfl;exact rfl)|((with_reducible apply wl_yes);exact rfl;exact rfl;exact rfl)
        refine wl_call rfl (by kernel_rfl) rfl ((fn_has fs[i] ver B w4 hB4 _ (Rep.below hr (hw24.mono (by omega)) (Nat.le_refl _))).mono ?_)
        rintro e w5 ⟨v, rfl, hw5, rfl⟩
        refine ⟨_, rfl, ?_⟩
        have hb5 := hb4.below hw5 hb4.lt
        have hs45 := hw5.size
        have hw15 := hw14.trans (hw5.mono (by omega))
        have hw05 := hw04.trans (hw5.mono (by omega))
        have ho5 := ho4.below hw5
        repeat first|(with_reducible first|apply wl_nil|apply qk_thn)|((with_reducible apply ws);exact rfl;exact rfl)
        cases hh : fs[i].has ver
        · refine wc_no rfl rfl ?_
          repeat (with_reducible first|apply wc_region|apply qk_thn|apply wc_skip|apply qk_in)
          refine wl_add rfl rfl rfl (r := ((i + 1 : Nat) : Int)) (by rw [IntKind.wrap_i64]; omega) ?_
          repeat first|(with_reducible apply wl_nil)|((with_reducible apply ws);exact rfl;exact rfl)
          refine qk_round ⟨i + 1, d, xs⟩ ⟨rfl, rfl, rfl, rfl, rfl, rfl, rfl, rfl, rfl, rfl, trivial⟩ ⟨by simp only []; omega, hw15, ho5, ?_⟩ (by simp only []; omega)
          rw [hdr, if_neg (by rw [hh]; simp)] at hx
          exact hx
        · refine wc_yes rfl rfl ?_
          rw [hdr, if_pos ⟨htag, hh⟩] at hx
          have hxl := congrArg List.length hx
          simp only [List.length_append] at hxl
          skip
          have hw25 : Below w2.heap.size w2 w5 := hw24.trans (hw5.mono (by omega))
          refine wc_par [(0, d), (1, .agg ([.int .i64 fs[i].kind, .int .i64 fs[i].fr, .int .i64 fs[i].upto, .int .i64 fs[i].nul, .int .i64 fs[i].tag, .int .i64 fs[i].df, .int .i64 fs[i].of, sv] : List Value).toArray), (2, .int .i64 ver), (3, .bool flex), (4, .agg ([.int .i64 t.n, sv2, .bool t.nul, lv, uv] : List Value).toArray), (5, .int .i64 (i : Int))] [9, 8, 7, 6]
            (fun vals w' => Below w1.heap.size w1 w' ∧ Box w' w2.heap.size [.int .i64 fs[i].kind, .int .i64 fs[i].fr, .int .i64 fs[i].upto, .int .i64 fs[i].nul, .int .i64 fs[i].tag, .int .i64 fs[i].df, .int .i64 fs[i].of, sv] 50 ∧ match vals with
              | [] => Below w5.heap.size w5 w'
              | [v] => Below w5.heap.size w5 w' ∧ ∃ xs' : List Value, v = .agg xs'.toArray ∧ Rep (Lo B) w' (treeD (att t i)) xs'
              | [v, _] => Below w5.heap.size w5 w' ∧ Own w' w5.heap.size 5 v (wField ver flex fs[i] (att t i))
              | v :: _ => Own w' w1.heap.size 5 v (xs ++ wField ver flex fs[i] (att t i)))
            mixed rfl rfl rfl rfl rfl (by show ([0,1,2,3,4,5] : List Nat).Nodup; decide) rfl rfl (by decide) rfl rfl rfl rfl ⟨hw15.drew, hb5, (Below.refl _ w5).drew⟩ ?_ ⟨?_, ?_, ?_, ?_, trivial⟩ ?_
          · intro p hp vals w' hC a k
            simp only [List.mem_cons, List.not_mem_nil, or_false] at hp
            rcases hp with rfl | rfl | rfl | rfl | rfl | rfl
            · exact gv rfl rfl (rn_move k rfl)
            · exact gv rfl rfl (rn_loadBAgg k rfl ta_fld hC.2.1)
            · exact gv rfl rfl (rn_move k rfl)
            · exact gv rfl rfl (rn_move k rfl)
            · exact gv rfl rfl (rn_loadBAgg k rfl ta_tree (hb1.below hC.1 (by omega)))
            · exact gv rfl rfl (rn_move k rfl)
          · rintro vals w' hvl ⟨hb', hbx', hC⟩ a k
            match vals, hvl with
            | [v8, v7, v6], _ => exact ⟨_, rfl, does_assign k rfl ⟨hb', hbx', hC⟩⟩
          · rintro vals w' hvl ⟨hb', hbx', hC⟩ a k
            match vals, hvl with
            | [v7, v6], _ =>
              obtain ⟨hb5', ho7⟩ := hC
              have hod := ho5.below hb5'
              refine ⟨_, rfl, does_appSl k tb_bytes tb_bytes rfl rfl ho7.bytes hod (by have := hb'.size; omega) (by omega) (fun d' w'' ho'' hg'' => ⟨hb'.trans (hg''.below hb'.size hod.ge), hbx'.kept hg''.grown ?_, ho''⟩)⟩
              intro e
              have := ho2.lt _ e.symm
              omega
          · rintro vals w' hvl ⟨hb', hbx', hC⟩ a k
            match vals, hvl with
            | [v6], _ =>
              obtain ⟨hb5', xs', rfl, hxr⟩ := hC
              have hs5' := hb5'.size
              refine ⟨_, rfl, does_call k rfl (by kernel_rfl) ((hF fs[i] (List.getElem_mem hlt) flex ver (att t i) B w' _ _ (hok.at i) (by omega) (Rep.below hr ((hw25.trans (hb5'.mono (by omega))).mono (by omega)) (Nat.le_refl _)) hxr (by omega)).mono ?_)⟩
              rintro e w'' ⟨v, rfl, hb'', ho⟩
              exact ⟨_, rfl, hb'.trans (hb''.mono hb'.size), hbx'.below hb'' hbx'.lt, hb5'.trans (hb''.mono hs5'), ho.mono hs5'⟩
          · rintro vals w' hvl ⟨hb', hbx', hC⟩ a k
            match vals, hvl with
            | [], _ =>
              simp only [] at hC
              have hs5' := hC.size
              refine ⟨_, rfl, does_call k rfl (by kernel_rfl) ((fn_at t i B w' (by omega) _ (Rep.below ht ((hw05.trans (hC.mono (by omega))).mono hB) (Nat.le_refl _))).mono ?_)⟩
              rintro e w'' ⟨v, rfl, hb'', xs', rfl, hxr⟩
              exact ⟨_, rfl, hb'.trans (hb''.mono hb'.size), hbx'.below hb'' hbx'.lt, hC.trans (hb''.mono hs5'), xs', rfl, hxr⟩
          · rintro vals w' hvl ⟨hb', hbx', hC⟩
            match vals, hvl with
            | [v9, v8, v7, v6], _ =>
              refine qk_thn ?_
              repeat (with_reducible apply wc_region)
              refine wl_add rfl rfl rfl (r := ((i + 1 : Nat) : Int)) (by rw [IntKind.wrap_i64]; omega) ?_
              repeat first|(with_reducible apply wl_nil)|((with_reducible apply ws);exact rfl;exact rfl)
              refine qk_round ⟨i + 1, v9, xs ++ wField ver flex fs[i] (att t i)⟩ ⟨rfl, rfl, rfl, rfl, rfl, rfl, rfl, rfl, rfl, rfl, trivial⟩ ⟨by simp only []; omega, hb', hC, ?_⟩ (by simp only []; omega)
              rw [List.append_assoc]; exact hx
      · have e1 : decide (fs[i].tag < 0) = false := by simpa using htag
        rw [e1]
        repeat first|(with_reducible first|apply wl_nil|apply qk_thn)|((with_reducible apply ws);exact rfl;exact rfl)|((with_reducible apply wl_no);exact rfl;exact rfl;exact rfl;exact rfl)
        refine wc_no rfl rfl ?_
        repeat (with_reducible first|apply wc_region|apply qk_thn|apply wc_skip|apply qk_in)
        refine wl_add rfl rfl rfl (r := ((i + 1 : Nat) : Int)) (by rw [IntKind.wrap_i64]; omega) ?_
        repeat first|(with_reducible apply wl_nil)|((with_reducible apply ws);exact rfl;exact rfl)
        refine qk_round ⟨i + 1, d, xs⟩ ⟨rfl, rfl, rfl, rfl, rfl, rfl, rfl, rfl, rfl, rfl, trivial⟩ ⟨by simp only []; omega, hw14, ho4, ?_⟩ (by simp only []; omega)
        rw [hdr, if_neg (fun h => htag h.1)] at hx
        exact hx
    · refine wc_no rfl (by simpa using hlt) ?_
      repeat (with_reducible first|apply wc_exit|apply qk_thn_exit|apply qk_in_exit|apply qk_round_exit)
      refine qk_cut ⟨0, d, xs⟩ ⟨rfl, rfl, rfl, rfl, rfl, rfl, rfl, trivial⟩ ⟨hw2, ?_⟩
      rw [List.drop_of_length_le (by omega)] at hx
      simp only [wFs, List.append_nil] at hx
      rw [← hx]; exact ho2
  rintro ⟨_, out, _⟩ w2 ⟨hw2, ho2⟩
  simp only [] at ho2
  have hs12 := hw2.size
  have hw02 : Below w.heap.size w w2 := hw1.trans (hw2.mono (by omega))
  refine wc_seq (wc_seq (wc_region ?_))
  repeat ((with_reducible apply ws);exact rfl;exact rfl)
  refine wl_nil (qk_thn ?_)
  cases flex
  · refine wc_yes rfl rfl ?_
    repeat first|(with_reducible first|apply wc_seq|apply wc_region|apply wl_nil|apply qk_thn|apply wc_ret|apply qk_thn_ret)|((with_reducible apply ws);exact rfl;exact rfl)
    exact qk_ret1 rfl rfl ⟨_, rfl, hw02, by rw [wPart_false]; exact ho2.mono (by omega)⟩
  refine wc_no rfl rfl ?_
  refine wc_skip (qk_thn ?_)
  have hKn := known_le (fsok.tag hfs)
  have hlimA := hlim
  rw [wPart_true, allTags_eq] at hlimA
  simp only [List.length_append, tagB_append] at hlimA
  refine wc_cut (α := PtT) (fun s => [(10, s.d), (11, .int .i64 (s.l.length : Int)), (9, out), (7, .pointer (some ⟨w.heap.size, 0, none⟩)), (2, .bool true), (1, .int .i64 ver), (0, .slice fa fs.length fc)])
    (fun s w' => Below w2.heap.size w2 w' ∧ Own w' w2.heap.size 5 s.d (tagB s.l) ∧ s.l = below ver true fs t (known fs)) ?_ ?_
  · repeat first|(with_reducible first|apply wc_seq|apply wc_region)|((with_reducible apply ws);exact rfl;exact rfl)
    refine wl_call rfl (by kernel_rfl) rfl ((fn_known _ fs B w2 (by omega) (hf.below (hw02.mono hB) (Nat.le_refl _)) (fsok.tag hfs) (by omega)).mono ?_)
    rintro e w3 ⟨v, rfl, hw3, rfl⟩
    refine ⟨_, rfl, ?_⟩
    refine wl_conv .i64 rfl ti_u32 ti_i64 rfl (r := (known fs : Int)) (by rw [IntKind.wrap_i64]; omega) ?_
    repeat first|(with_reducible first|apply wl_nil|apply qk_thn|apply wc_block)|((with_reducible apply ws);exact rfl;exact rfl)
    refine wc_loop (α := PtT) (fun s => [(52, .int .i64 (s.k : Int)), (51, .int .i64 (known fs : Int)), (10, s.d), (11, .int .i64 (s.l.length : Int)), (9, out), (7, .pointer (some ⟨w.heap.size, 0, none⟩)), (2, .bool true), (1, .int .i64 ver), (0, .slice fa fs.length fc)])
      (fun s w' => s.k ≤ known fs ∧ Below w2.heap.size w2 w' ∧ Own w' w2.heap.size 5 s.d (tagB s.l) ∧ s.l = below ver true fs t s.k) (fun s => known fs - s.k) ⟨0, .slice none 0 0, []⟩ ⟨rfl, rfl, rfl, rfl, rfl, rfl, rfl, rfl, rfl, trivial⟩ ⟨Nat.zero_le _, hw3, Own.nil _ _ _, rfl⟩ ?_
    rintro ⟨k, d, l⟩ w4 ⟨hk, hw4, hd4, hl⟩
    simp only [] at hk hd4 hl
    change WC _ _ _ _ [(52, .int .i64 (k : Int)), (51, .int .i64 (known fs : Int)), (10, d), (11, .int .i64 (l.length : Int)), (9, out), (7, .pointer (some ⟨w.heap.size, 0, none⟩)), (2, .bool true), (1, .int .i64 ver), (0, .slice fa fs.length fc)] _
    repeat first|(with_reducible first|apply wc_seq|apply wc_region|apply wl_nil|apply qk_thn)|((with_reducible apply ws);exact rfl;exact rfl)
    by_cases hkl : k < known fs
    · refine wc_yes rfl (by simpa using hkl) ?_
      repeat first|(with_reducible first|apply wc_seq|apply wc_region|apply wl_nil|apply qk_thn|apply wc_block|apply wc_skip)|((with_reducible apply ws);exact rfl;exact rfl)
      have hbl := below_le ver true fs t (m := k + 1) (n := known fs) hkl
      rw [below_succ, tagB_append, List.length_append] at hbl
      refine wc_loop (α := PtT) (fun s => [(57, .int .i64 (s.k : Int)), (56, .int .i64 (fs.length : Int)), (55, .slice fa fs.length fc), (14, .int .i64 (k : Int)), (52, .int .i64 (k : Int)), (51, .int .i64 (known fs : Int)), (10, s.d), (11, .int .i64 (s.l.length : Int)), (9, out), (7, .pointer (some ⟨w.heap.size, 0, none⟩)), (2, .bool true), (1, .int .i64 ver), (0, .slice fa fs.length fc)])
        (fun s w' => s.k ≤ fs.length ∧ Below w2.heap.size w2 w' ∧ Own w' w2.heap.size 5 s.d (tagB s.l) ∧ s.l ++ wTs ver true (fs.drop s.k) s.k k t = below ver true fs t k ++ wTs ver true fs 0 k t) (fun s => fs.length - s.k) ⟨0, d, l⟩ ⟨rfl, rfl, rfl, rfl, rfl, rfl, rfl, rfl, rfl, rfl, rfl, rfl, rfl, trivial⟩ ⟨Nat.zero_le _, hw4, hd4, by rw [hl]; rfl⟩ ?_
      rintro ⟨i, d, l⟩ w5 ⟨hi, hw5, hd5, hl⟩
      simp only [] at hi hd5 hl
      change WC _ _ _ _ [(57, .int .i64 (i : Int)), (56, .int .i64 (fs.length : Int)), (55, .slice fa fs.length fc), (14, .int .i64 (k : Int)), (52, .int .i64 (k : Int)), (51, .int .i64 (known fs : Int)), (10, d), (11, .int .i64 (l.length : Int)), (9, out), (7, .pointer (some ⟨w.heap.size, 0, none⟩)), (2, .bool true), (1, .int .i64 ver), (0, .slice fa fs.length fc)] _
      have hs25 := hw5.size
      have hw05 : Below w.heap.size w w5 := hw02.trans (hw5.mono (by omega))
      have hll := congrArg (fun x => (tagB x).length) hl
      simp only [tagB_append, List.length_append] at hll
      have hln := tagB_len l
      simp only [lim] at hlimA
      repeat first|(with_reducible first|apply wc_seq|apply wc_region|apply wl_nil|apply qk_thn)|((with_reducible apply ws);exact rfl;exact rfl)
      by_cases hlt : i < fs.length
      · refine wc_yes rfl (by simpa using hlt) ?_
        obtain ⟨b, off, c', cs, hv, _, hcs, hlen, hr⟩ := (hf.below (hw05.mono hB) (Nat.le_refl _)).get (sz := 8) (i := i) (by intro d hd; obtain ⟨x, _, rfl⟩ := List.mem_map.1 hd; exact fldD_width x) (by simpa using hlt)
        simp only [Value.slice.injEq, List.length_map] at hv
        obtain ⟨rfl, _, rfl⟩ := hv
        simp only [List.getElem_map] at hr
        obtain ⟨hone, _⟩ := fld_one hr
        obtain ⟨sv, hce, _⟩ := fld_cells hr
        subst hce
        have hdr := wTs_drop ver true fs k t hlt
        repeat first|(with_reducible first|apply wc_seq|apply wc_region|apply qk_thn|apply wc_block|apply wc_skip)|((with_reducible apply ws);exact rfl;exact rfl)
        refine wl_indexAddr rfl rfl es_flds rfl hlt ?_
        refine wl_loadAgg (cs := [.int .i64 fs[i].kind, .int .i64 fs[i].fr, .int .i64 fs[i].upto, .int .i64 fs[i].nul, .int .i64 fs[i].tag, .int .i64 fs[i].df, .int .i64 fs[i].of, sv]) rfl ta_fld rfl (fun j v e => hcs.cell e) ?_
        refine wl_alloc zv_fld rfl rfl (fun w6 hb6 hg6 hs6 => ?_)
        repeat ((with_reducible apply ws);exact rfl;exact rfl)
        refine wl_storeBAgg (vs := [.int .i64 fs[i].kind, .int .i64 fs[i].fr, .int .i64 fs[i].upto, .int .i64 fs[i].nul, .int .i64 fs[i].tag, .int .i64 fs[i].df, .int .i64 fs[i].of, sv]) rfl rfl rfl tz_fld hone hb6 rfl (fun w7 hb7 hg7 hs7 => ?_)
        have hw57 : Below w5.heap.size w5 w7 := (below_of hg6 (Nat.le_refl _) (by simp)).trans (below_of hg7 (by omega) (by intro k hk; simp at hk; omega))
        have hw27 : Below w2.heap.size w2 w7 := hw5.trans (hw57.mono hs25)
        have hw07 : Below w.heap.size w w7 := hw02.trans (hw27.mono (by omega))
        have hd7 := hd5.below hw57
        have hs57 := hw57.size
        have hB7 : B ≤ w7.heap.size := by omega
        have htc : ∀ w', Below w7.heap.size w7 w' → Box w' w.heap.size [.int .i64 t.n, sv2, .bool t.nul, lv, uv] 26 := fun w' h => hb1.below (hw2.trans ((hw27.trans (h.mono (by omega))).mono (by omega))) (by omega)
        repeat (with_reducible first|apply wc_seq|apply wl_nil|apply qk_thn)
        have hrw : ∀ w', Below w7.heap.size w7 w' → Rep (Lo B) w' (fldD fs[i]) [.int .i64 fs[i].kind, .int .i64 fs[i].fr, .int .i64 fs[i].upto, .int .i64 fs[i].nul, .int .i64 fs[i].tag, .int .i64 fs[i].df, .int .i64 fs[i].of, sv] := fun w' h => Rep.below hr ((hw57.trans (h.mono hs57)).mono (by omega)) (Nat.le_refl _)
        have htw : ∀ w', Below w7.heap.size w7 w' → Rep (Lo B) w' (treeD t) [.int .i64 t.n, sv2, .bool t.nul, lv, uv] := fun w' h => Rep.below ht ((hw07.trans (h.mono (by omega))).mono hB) (Nat.le_refl _)
        by_cases htk : fs[i].tag = (k : Int)
        · have e1 : (fs[i].tag == (k : Int)) = true := by simpa using htk
          refine wc_par [(0, .pointer (some ⟨w5.heap.size, 0 + 4, none⟩)), (1, .int .i64 fs[i].tag), (2, .int .i64 (k : Int)), (3, .bool true), (4, .bool true), (5, .agg ([.int .i64 fs[i].kind, .int .i64 fs[i].fr, .int .i64 fs[i].upto, .int .i64 fs[i].nul, .int .i64 fs[i].tag, .int .i64 fs[i].df, .int .i64 fs[i].of, sv] : List Value).toArray), (6, .agg ([.int .i64 t.n, sv2, .bool t.nul, lv, uv] : List Value).toArray), (7, .int .i64 (i : Int))] [11, 10, 9, 8]
            (fun vals w' => Below w7.heap.size w7 w' ∧ match vals with
              | [] => True
              | [v] => ∃ xs' : List Value, v = .agg xs'.toArray ∧ Rep (Lo B) w' (treeD (att t i)) xs'
              | [v, _] => v = .bool (usual fs[i] (att t i))
              | v :: _ => v = .bool (!usual fs[i] (att t i)))
            mixed rfl rfl rfl rfl rfl (by show ([0,1,2,3,4,5,6,7] : List Nat).Nodup; decide) rfl rfl (by decide) rfl rfl rfl rfl ⟨(Below.refl _ w7).drew, trivial⟩ ?_ ⟨?_, ?_, ?_, ?_, trivial⟩ ?_
          · intro p hp vals w' hC a k
            simp only [List.mem_cons, List.not_mem_nil, or_false] at hp
            rcases hp with rfl | rfl | rfl | rfl | rfl | rfl | rfl | rfl
            · exact gv rfl rfl (rn_fieldAddr k rfl fo_fld4)
            · exact gv rfl rfl (rn_load k rfl to_int ((hb7.below hC.1 hb7.lt).cell0 (i := 4) rfl))
            · exact gv rfl rfl (rn_move k rfl)
            · refine gv rfl rfl ?_
              rw [← e1]
              exact rn_eql k rfl rfl
            · exact gv rfl rfl (rn_move k rfl)
            · exact gv_yes rfl rfl rfl k rfl rfl (rn_loadBAgg k rfl ta_fld (hb7.below hC.1 hb7.lt))
            · exact gv_yes rfl rfl rfl k rfl rfl (rn_loadBAgg k rfl ta_tree (htc _ hC.1))
            · exact gv_yes rfl rfl rfl k rfl rfl (rn_move k rfl)
          · rintro vals w' hvl ⟨hb', hC⟩ a k
            match vals, hvl with
            | [v10, v9, v8], _ =>
              simp only [] at hC
              subst hC
              exact ⟨_, rfl, does_pick k rfl rfl ⟨hb', rfl⟩⟩
          · rintro vals w' hvl ⟨hb', hC⟩ a k
            match vals, hvl with
            | [v9, v8], _ =>
              simp only [] at hC
              subst hC
              exact ⟨_, rfl, does_not k rfl ⟨hb', rfl⟩⟩
          · rintro vals w' hvl ⟨hb', hC⟩ a k
            match vals, hvl with
            | [v8], _ =>
              obtain ⟨xs', rfl, hxr⟩ := hC
              refine ⟨_, rfl, does_call k rfl (by kernel_rfl) ((hU fs[i] (List.getElem_mem hlt) (att t i) B w' _ _ (hok.at i) (by have := hb'.size; omega) (hrw _ hb') hxr).mono ?_)⟩
              rintro e w'' ⟨v, rfl, hb'', rfl⟩
              exact ⟨_, rfl, hb'.trans (hb''.mono hb'.size), rfl⟩
          · rintro vals w' hvl ⟨hb', hC⟩ a k
            match vals, hvl with
            | [], _ =>
              refine ⟨_, rfl, does_call k rfl (by kernel_rfl) ((fn_at t i B w' (by have := hb'.size; omega) _ (htw _ hb')).mono ?_)⟩
              rintro e w'' ⟨v, rfl, hb'', xs', rfl, hxr⟩
              exact ⟨_, rfl, hb'.trans (hb''.mono hb'.size), xs', rfl, hxr⟩
          · rintro vals w8 hvl ⟨hw78, hC⟩
            match vals, hvl with
            | [v11, v10, v9, v8], _ =>
              simp only [] at hC
              subst hC
              refine qk_thn ?_
              have hs78 := hw78.size
              have hd8 := hd7.below hw78
              have hw28 := hw27.trans (hw78.mono (by omega))
              cases hus : usual fs[i] (att t i)
              · refine wc_yes rfl rfl ?_
                rw [if_pos ⟨htk, hus⟩] at hdr
                rw [hdr] at hl hll
                simp only [tagB_append, tagB_one, List.length_append] at hll
                have hwl := wTag_len k (wField ver true fs[i] (att t i))
                refine wc_seq ?_
                refine wc_par [(0, .agg ([.int .i64 fs[i].kind, .int .i64 fs[i].fr, .int .i64 fs[i].upto, .int .i64 fs[i].nul, .int .i64 fs[i].tag, .int .i64 fs[i].df, .int .i64 fs[i].of, sv] : List Value).toArray), (1, .int .i64 ver), (2, .bool true), (3, .agg ([.int .i64 t.n, sv2, .bool t.nul, lv, uv] : List Value).toArray), (4, .int .i64 (i : Int))] [7, 6, 5]
                  (fun vals w' => Below w8.heap.size w8 w' ∧ match vals with
                    | [] => True
                    | [v] => ∃ xs' : List Value, v = .agg xs'.toArray ∧ Rep (Lo B) w' (treeD (att t i)) xs'
                    | v :: _ => Own w' w8.heap.size 5 v (wField ver true fs[i] (att t i)))
                  mixed rfl rfl rfl rfl rfl (by show ([0,1,2,3,4] : List Nat).Nodup; decide) rfl rfl (by decide) rfl rfl rfl rfl ⟨(Below.refl _ w8).drew, trivial⟩ ?_ ⟨?_, ?_, ?_, trivial⟩ ?_
                · intro p hp vals w' hC a k
                  have h7' := hw78.trans (hC.1.mono hs78)
                  simp only [List.mem_cons, List.not_mem_nil, or_false] at hp
                  rcases hp with rfl | rfl | rfl | rfl | rfl
                  · exact gv rfl rfl (rn_loadBAgg k rfl ta_fld (hb7.below h7' hb7.lt))
                  · exact gv rfl rfl (rn_move k rfl)
                  · exact gv rfl rfl (rn_move k rfl)
                  · exact gv rfl rfl (rn_loadBAgg k rfl ta_tree (htc _ h7'))
                  · exact gv rfl rfl (rn_move k rfl)
                · rintro vals w' hvl ⟨hb', hC⟩ a k
                  match vals, hvl with
                  | [v6, v5], _ => exact ⟨_, rfl, does_assign k rfl ⟨hb', hC⟩⟩
                · rintro vals w' hvl ⟨hb', hC⟩ a k
                  match vals, hvl with
                  | [v5], _ =>
                    obtain ⟨xs', rfl, hxr⟩ := hC
                    have h7' := hw78.trans (hb'.mono hs78)
                    refine ⟨_, rfl, does_call k rfl (by kernel_rfl) ((hF fs[i] (List.getElem_mem hlt) true ver (att t i) B w' _ _ (hok.at i) (by have := hb'.size; omega) (hrw _ h7') hxr (by simp only [lim]; omega)).mono ?_)⟩
                    rintro e w'' ⟨v, rfl, hb'', ho⟩
                    exact ⟨_, rfl, hb'.trans (hb''.mono hb'.size), ho.mono hb'.size⟩
                · rintro vals w' hvl ⟨hb', hC⟩ a k
                  match vals, hvl with
                  | [], _ =>
                    refine ⟨_, rfl, does_call k rfl (by kernel_rfl) ((fn_at t i B w' (by have := hb'.size; omega) _ (htw _ (hw78.trans (hb'.mono hs78)))).mono ?_)⟩
                    rintro e w'' ⟨v, rfl, hb'', xs', rfl, hxr⟩
                    exact ⟨_, rfl, hb'.trans (hb''.mono hb'.size), xs', rfl, hxr⟩
                rintro vals w9 hvl ⟨hw89, hC⟩
                match vals, hvl with
                | [v7, v6, v5], _ =>
                  refine qk_thn ?_
                  simp only [] at hC
                  have hs89 := hw89.size
                  have hd9 := hd8.below hw89
                  have hw29 := hw28.trans (hw89.mono (by omega))
                  have hap := apart_of hC.ge hd8.lt
                  obtain ⟨va, vc, rfl⟩ := hC.shape
                  repeat first|(with_reducible first|apply wc_seq|apply wc_region)|((with_reducible apply ws);exact rfl;exact rfl)
                  refine wl_conv .u64 rfl ti_i64 ti_u64 rfl (r := (k : Int)) (by rw [IntKind.wrap_u64]; omega) ?_
                  refine wl_call rfl (by kernel_rfl) rfl ((fn_uvarint k (by omega) w9).mono ?_)
                  rintro e w10 ⟨u1, rfl, hw10, hu1⟩
                  refine ⟨u1, rfl, ?_⟩
                  have hs10 := hw10.size
                  have hd10 := hd9.below hw10
                  have hv10 := Own.below hC hw10
                  refine wl_appSl tb_bytes tb_bytes rfl rfl rfl hu1.bytes hd10 (by omega) (by simp only [lim]; simp only [wTag, List.length_append] at hll; omega) (fun d1 w11 hd11 hg11 => ?_)
                  obtain ⟨hv11, hap11⟩ := hv10.apart hap hg11
                  have hs11 := hg11.grown.size
                  repeat ((with_reducible apply ws);exact rfl;exact rfl)
                  refine wl_conv .u64 rfl ti_i64 ti_u64 rfl (r := ((wField ver true fs[i] (att t i)).length : Int)) (by rw [IntKind.wrap_u64]; simp only [wTag, List.length_append] at hll; omega) ?_
                  refine wl_call rfl (by kernel_rfl) rfl ((fn_uvarint (wField ver true fs[i] (att t i)).length (by simp only [wTag, List.length_append] at hll; omega) w11).mono ?_)
                  rintro e w12 ⟨u2, rfl, hw12, hu2⟩
                  refine ⟨u2, rfl, ?_⟩
                  have hs12' := hw12.size
                  have hd12 := hd11.below hw12
                  have hv12 := hv11.below hw12
                  refine wl_appSl tb_bytes tb_bytes rfl rfl rfl hu2.bytes hd12 (by omega) (by simp only [lim, List.length_append]; simp only [wTag, List.length_append] at hll; omega) (fun d2 w13 hd13 hg13 => ?_)
                  obtain ⟨hv13, hap13⟩ := hv12.apart hap11 hg13
                  have hs13 := hg13.grown.size
                  repeat ((with_reducible apply ws);exact rfl;exact rfl)
                  refine wl_appSl tb_bytes tb_bytes rfl rfl rfl hv13.bytes hd13 (by omega) (by simp only [lim, List.length_append]; simp only [wTag, List.length_append] at hll; omega) (fun d3 w14 hd14 hg14 => ?_)
                  have hw2e : Below w2.heap.size w2 w14 :=
                    (((((hw29.trans (hw10.mono (by omega))).trans (hg11.below (by omega) hd10.ge)).trans (hw12.mono (by omega))).trans (hg13.below (by omega) hd12.ge)).trans (hg14.below (by omega) hd13.ge))
                  repeat first|(with_reducible first|apply wc_region|apply wl_nil|apply qk_thn)|((with_reducible apply ws);exact rfl;exact rfl)
                  refine wl_add rfl rfl rfl (r := ((l ++ [(k, wField ver true fs[i] (att t i))]).length : Int)) (by rw [IntKind.wrap_i64]; simp only [List.length_append, List.length_cons, List.length_nil]; omega) ?_
                  repeat first|(with_reducible first|apply wc_region|apply wl_nil|apply qk_thn|apply qk_in)|((with_reducible apply ws);exact rfl;exact rfl)
                  refine wl_add rfl rfl rfl (r := ((i + 1 : Nat) : Int)) (by rw [IntKind.wrap_i64]; omega) ?_
                  repeat first|(with_reducible apply wl_nil)|((with_reducible apply ws);exact rfl;exact rfl)
                  refine qk_round ⟨i + 1, d3, l ++ [(k, wField ver true fs[i] (att t i))]⟩ ⟨rfl, rfl, rfl, rfl, rfl, rfl, rfl, rfl, rfl, rfl, rfl, rfl, rfl, trivial⟩ ⟨by simp only []; omega, hw2e, ?_, ?_⟩ (by simp only []; omega)
                  · simp only [tagB_append, tagB_one, wTag]
                    simpa only [List.append_assoc] using hd14
                  · simp only []
                    rw [List.append_assoc]; exact hl
              · refine wc_no rfl rfl ?_
                rw [if_neg (by rw [hus]; simp)] at hdr
                rw [hdr] at hl
                repeat (with_reducible first|apply wc_region|apply qk_thn|apply wc_skip|apply qk_in)
                refine wl_add rfl rfl rfl (r := ((i + 1 : Nat) : Int)) (by rw [IntKind.wrap_i64]; omega) ?_
                repeat first|(with_reducible apply wl_nil)|((with_reducible apply ws);exact rfl;exact rfl)
                exact qk_round ⟨i + 1, d, l⟩ ⟨rfl, rfl, rfl, rfl, rfl, rfl, rfl, rfl, rfl, rfl, rfl, rfl, rfl, trivial⟩ ⟨by simp only []; omega, hw28, hd8, hl⟩ (by simp only []; omega)
        · have e1 : (fs[i].tag == (k : Int)) = false := by simpa using htk
          refine wc_par [(0, .pointer (some ⟨w5.heap.size, 0 + 4, none⟩)), (1, .int .i64 fs[i].tag), (2, .int .i64 (k : Int)), (3, .bool false), (4, .bool false), (5, undef), (6, undef), (7, undef), (8, undef), (9, undef), (10, undef), (11, .bool false)] []
            (fun vals w' => w' = w7.drew)
            mixed rfl rfl rfl rfl rfl (by show ([0,1,2,3,4,5,6,7,8,9,10,11] : List Nat).Nodup; decide) rfl rfl (by decide) rfl rfl rfl rfl rfl ?_ trivial ?_
          · intro p hp vals w' hC a k
            subst hC
            simp only [List.mem_cons, List.not_mem_nil, or_false] at hp
            rcases hp with rfl | rfl | rfl | rfl | rfl | rfl | rfl | rfl | rfl | rfl | rfl | rfl
            · exact gv rfl rfl (rn_fieldAddr k rfl fo_fld4)
            · exact gv rfl rfl (rn_load k rfl to_int (hb7.cell0 (i := 4) rfl))
            · exact gv rfl rfl (rn_move k rfl)
            · refine gv rfl rfl ?_
              rw [← e1]
              exact rn_eql k rfl rfl
            · exact gv rfl rfl (rn_move k rfl)
            iterate 6 (exact gv_no rfl rfl rfl k rfl rfl)
            · exact gv rfl rfl (rn_pick k rfl rfl)
          · rintro vals w8 hvl rfl
            refine qk_thn ?_
            refine wc_no rfl rfl ?_
            rw [if_neg (fun h => htk h.1)] at hdr
            rw [hdr] at hl
            repeat (with_reducible first|apply wc_region|apply qk_thn|apply wc_skip|apply qk_in)
            refine wl_add rfl rfl rfl (r := ((i + 1 : Nat) : Int)) (by rw [IntKind.wrap_i64]; omega) ?_
            repeat first|(with_reducible apply wl_nil)|((with_reducible apply ws);exact rfl;exact rfl)
            exact qk_round ⟨i + 1, d, l⟩ ⟨rfl, rfl, rfl, rfl, rfl, rfl, rfl, rfl, rfl, rfl, rfl, rfl, rfl, trivial⟩ ⟨by simp only []; omega, hw27.drew, hd7, hl⟩ (by simp only []; omega)
      · refine wc_no rfl (by simpa using hlt) ?_
        repeat (with_reducible first|apply wc_region|apply qk_thn|apply wc_exit|apply qk_in|apply qk_thn_exit|apply qk_in_exit|apply qk_round_exit)
        refine wl_add rfl rfl rfl (r := ((k + 1 : Nat) : Int)) (by rw [IntKind.wrap_i64]; omega) ?_
        repeat first|(with_reducible apply wl_nil)|((with_reducible apply ws);exact rfl;exact rfl)
        refine qk_round ⟨k + 1, d, l⟩ ⟨rfl, rfl, rfl, rfl, rfl, rfl, rfl, rfl, rfl, trivial⟩ ⟨by simp only []; omega, hw5, hd5, ?_⟩ (by simp only []; omega)
        simp only []
        rw [below_succ, ← hl, List.drop_of_length_le (by omega)]
        simp [wTs]
    · refine wc_no rfl (by simpa using hkl) ?_
      repeat (with_reducible first|apply wc_exit|apply qk_thn_exit|apply qk_in_exit|apply qk_round_exit)
      have hke : k = known fs := by omega
      subst hke
      exact qk_cut ⟨0, d, l⟩ ⟨rfl, rfl, rfl, rfl, rfl, rfl, rfl, trivial⟩ ⟨hw4, hd4, hl⟩
  rintro ⟨_, d, l⟩ w3 ⟨hw3, hd3, hl⟩
  simp only [] at hd3 hl
  have hs23 := hw3.size
  have hw03 : Below w.heap.size w w3 := hw02.trans (hw3.mono (by omega))
  have hbx3 : Box w3 w.heap.size [.int .i64 t.n, sv2, .bool t.nul, lv, uv] 26 := hb1.below (hw2.trans (hw3.mono (by omega))) (by omega)
  have hll := tagB_len (below ver true fs t (known fs) ++ others fs t.u)
  rw [tagB_append, List.length_append, List.length_append] at hll
  refine wc_cut (α := PtT) (fun s => [(10, s.d), (11, .int .i64 ((allTags ver true fs t).length : Int)), (9, out)])
    (fun s w' => Below w2.heap.size w2 w' ∧ Own w' w2.heap.size 5 s.d (tagB (allTags ver true fs t))) ?_ ?_
  · repeat first|(with_reducible first|apply wc_seq|apply wc_region)|((with_reducible apply ws);exact rfl;exact rfl)
    refine wl_loadB rfl to_tags rfl hbx3 rfl ?_
    refine wl_call rfl (by kernel_rfl) rfl ((fn_unknownR _ _ fs t.u B w3 (by omega) (hf.below (hw03.mono hB) (Nat.le_refl _)) (hu.below (hw03.mono hB) (Nat.le_refl _)) (fsok.tag hfs) (by omega)).mono ?_)
    rintro e w4 ⟨v, rfl, hw4, qs, hrow, hsay, hat⟩
    refine ⟨_, rfl, ?_⟩
    have hs34 := hw4.size
    have hd4 := hd3.below hw4
    have hqn : qs.length ≤ 32767 := by have := unknown_len fs t.u; rw [← hsay] at this; simpa using this
    have hoth : others fs t.u = qs.map fun q => (q.1.1, whole q.1.2) := by simp only [others, ← hsay, List.map_map]; rfl
    have hkeys : ∀ q ∈ qs, q.1.1 < 4294967296 := by
      intro q hq
      have : q.1 ∈ unknown fs t.u := by rw [← hsay]; exact List.mem_map_of_mem hq
      exact hok.u _ (unknown_mem fs t.u _ this)
    obtain ⟨va, vc, rfl⟩ := Row.shape hrow
    have hvb := fun g hg => World.ownsRow.lt hrow g hg
    repeat first|(with_reducible first|apply wl_nil|apply qk_thn|apply wc_block)|((with_reducible apply ws);exact rfl;exact rfl)
    refine wc_loop (α := PtT) (fun s => [(102, .int .i64 (s.k : Int)), (101, .int .i64 (qs.length : Int)), (100, .slice va qs.length vc), (10, s.d), (11, .int .i64 (s.l.length : Int)), (9, out), (7, .pointer (some ⟨w.heap.size, 0, none⟩))])
      (fun s w' => s.k ≤ qs.length ∧ Below w2.heap.size w2 w' ∧ w4.heap.size ≤ w'.heap.size ∧ Own w' w2.heap.size 5 s.d (tagB s.l) ∧ s.l = below ver true fs t (known fs) ++ (qs.take s.k).map (fun q => (q.1.1, whole q.1.2)) ∧ w'.ownsRow w3.heap.size 64 2 (.slice va qs.length vc) qs.length (tcells qs) ∧ (∀ g, s.d.ownBlock = some g → g < w3.heap.size ∨ w4.heap.size ≤ g)) (fun s => qs.length - s.k) ⟨0, d, l⟩ ⟨rfl, rfl, rfl, rfl, rfl, rfl, rfl, trivial⟩ ⟨Nat.zero_le _, hw3.trans (hw4.mono hs23), Nat.le_refl _, hd4, by rw [hl]; simp, hrow, fun g hg => .inl (hd3.lt g hg)⟩ ?_
    rintro ⟨i, d, l⟩ w5 ⟨hi, hw5, hs45, hd5, hl, hrow5, hdb⟩
    simp only [] at hi hd5 hl hdb
    change WC _ _ _ _ [(102, .int .i64 (i : Int)), (101, .int .i64 (qs.length : Int)), (100, .slice va qs.length vc), (10, d), (11, .int .i64 (l.length : Int)), (9, out), (7, .pointer (some ⟨w.heap.size, 0, none⟩))] _
    have hs25 := hw5.size
    have hll5 : (tagB (below ver true fs t (known fs))).length + (tagB (others fs t.u)).length ≤ 140737488355328 := by simp only [lim] at hlimA; omega
    repeat first|(with_reducible first|apply wc_seq|apply wc_region|apply wl_nil|apply qk_thn)|((with_reducible apply ws);exact rfl;exact rfl)
    by_cases hlt : i < qs.length
    · refine wc_yes rfl (by simpa using hlt) ?_
      obtain ⟨g, cap, hde, hg1, hg2', hca⟩ := Row.cells hrow5 (by omega)
      simp only [Value.slice.injEq, true_and] at hde
      obtain ⟨rfl, rfl⟩ := hde
      have hcj := tcells_at hca hlt
      have hsq := hat qs[i] (List.getElem_mem hlt)
      have hone : (([.int .u32 (qs[i].1.1 : Nat), qs[i].2] : List Value).all fun v => v.oneCell') = true := by
        obtain ⟨a3, c3, h3, _⟩ := hsq.shape
        rw [h3]; rfl
      have hle : (tagB l).length + (wTag qs[i].1.1 (whole qs[i].1.2)).length ≤ 140737488355328 := by
        have h1 : (tagB (others fs t.u)).length ≥ (tagB ((qs.take (i + 1)).map fun q => (q.1.1, whole q.1.2))).length := by
          rw [hoth]
          have : qs.map (fun q => (q.1.1, whole q.1.2)) = (qs.take (i + 1)).map (fun q => (q.1.1, whole q.1.2)) ++ (qs.drop (i + 1)).map (fun q => (q.1.1, whole q.1.2)) := by rw [← List.map_append, List.take_append_drop]
          rw [this, tagB_append, List.length_append]; omega
        rw [List.take_succ_eq_append_getElem hlt, List.map_append, tagB_append, List.length_append] at h1
        simp only [List.map_cons, List.map_nil, tagB_one] at h1
        rw [hl, tagB_append, List.length_append]
        omega
      have hln := tagB_len l
      repeat (with_reducible first|apply wc_seq|apply wc_region|apply qk_thn|apply wc_block|apply wc_skip)
      refine wl_indexAddr rfl rfl es_tags rfl hlt ?_
      refine wl_loadAgg (cs := [.int .u32 (qs[i].1.1 : Nat), qs[i].2]) rfl ta_tag rfl (fun j v e => hcj.cell e) ?_
      refine wl_alloc zv_tag rfl rfl (fun w6 hb6 hg6 hs6 => ?_)
      refine wl_storeBAgg (vs := [.int .u32 (qs[i].1.1 : Nat), qs[i].2]) rfl rfl rfl tz_tag hone hb6 rfl (fun w7 hb7 hg7 hs7 => ?_)
      have hw57 : Below w5.heap.size w5 w7 := (below_of hg6 (Nat.le_refl _) (by simp)).trans (below_of hg7 (by omega) (by intro k hk; simp at hk; omega))
      have hw27 : Below w2.heap.size w2 w7 := hw5.trans (hw57.mono hs25)
      have hd7 := hd5.below hw57
      have hs57 := hw57.size
      have hrow7 := Row.kept hrow5 (grown_of hw57) (fun g _ => by simp)
      have hsq7 : Sq B w7 qs[i].2 (qs[i].1.2.map byteD) := hsq.below ((Below.between hw3 hw27 (by omega)).mono (by omega)) (Nat.le_refl _)
      repeat first|(with_reducible first|apply wc_seq|apply wc_region|apply wl_nil|apply qk_thn)|((with_reducible apply ws);exact rfl;exact rfl)
      refine wl_loadB rfl to_bytes rfl hb7 rfl ?_
      refine wl_call rfl (by kernel_rfl) rfl ((fn_whole _ _ _ _ hsq7).mono ?_)
      rintro e w8 ⟨vb, rfl, _, rfl, hsb⟩
      refine ⟨vb, rfl, ?_⟩
      rw [whole_map] at hsb
      have hby := hsb
      obtain ⟨ba, bc, rfl, _⟩ := hsb.shape
      rw [List.length_map] at *
      repeat first|(with_reducible first|apply wc_seq|apply wc_region|apply wl_nil|apply qk_thn)|((with_reducible apply ws);exact rfl;exact rfl)
      refine wl_loadB rfl to_u32 rfl hb7 rfl ?_
      have hk32 := hkeys qs[i] (List.getElem_mem hlt)
      refine wl_conv .u64 rfl ti_u32 ti_u64 rfl (r := (qs[i].1.1 : Int)) (by rw [IntKind.wrap_u64]; omega) ?_
      refine wl_call rfl (by kernel_rfl) rfl ((fn_uvarint qs[i].1.1 (by omega) w8).mono ?_)
      rintro e w9 ⟨u1, rfl, hw9, hu1⟩
      refine ⟨u1, rfl, ?_⟩
      have hs89 := hw9.size
      have hd9 := hd7.below hw9
      have hrow9 := Row.kept hrow7 (grown_of hw9) (fun g _ => by simp)
      have hBw : ∀ w', Below w2.heap.size w8 w' → Sq B w' (.slice ba (whole qs[i].1.2).length bc) ((whole qs[i].1.2).map byteD) := fun w' h => hby.below (h.mono (by omega)) (Nat.le_refl _)
      have hwl : (whole qs[i].1.2).length ≤ 32767 := by simp [whole, Most]; omega
      simp only [wTag, List.length_append] at hle
      refine wl_appSl tb_bytes tb_bytes rfl rfl rfl hu1.bytes hd9 (by omega) (by simp only [lim]; omega) (fun d1 w10 hd10 hg10 => ?_)
      have hs10 := hg10.grown.size
      have hb89 : Below w2.heap.size w8 w9 := hw9.mono (by omega)
      have hb810 := hb89.trans (hg10.below (by omega) hd9.ge)
      have hrow10 := Row.kept hrow9 hg10.grown (fun g hg e => by have h1 := hvb g hg; have h2 := hdb g e; omega)
      have hdb10 : ∀ g, d1.ownBlock = some g → g < w3.heap.size ∨ w4.heap.size ≤ g := by
        intro g hg
        rcases hg10.fresh with h | h
        · exact hdb g (by rw [← h]; exact hg)
        · have := h g hg; right; omega
      repeat ((with_reducible apply ws);exact rfl;exact rfl)
      refine wl_conv .u64 rfl ti_i64 ti_u64 rfl (r := ((whole qs[i].1.2).length : Int)) (by rw [IntKind.wrap_u64]; omega) ?_
      refine wl_call rfl (by kernel_rfl) rfl ((fn_uvarint (whole qs[i].1.2).length (by omega) w10).mono ?_)
      rintro e w11 ⟨u2, rfl, hw11, hu2⟩
      refine ⟨u2, rfl, ?_⟩
      have hs11 := hw11.size
      have hd11 := hd10.below hw11
      have hrow11 := Row.kept hrow10 (grown_of hw11) (fun g _ => by simp)
      have hb811 := hb810.trans (hw11.mono (by omega))
      refine wl_appSl tb_bytes tb_bytes rfl rfl rfl hu2.bytes hd11 (by omega) (by simp only [lim, List.length_append]; omega) (fun d2 w12 hd12 hg12 => ?_)
      have hs12' := hg12.grown.size
      have hb812 := hb811.trans (hg12.below (by omega) hd11.ge)
      have hrow12 := Row.kept hrow11 hg12.grown (fun g hg e => by have h1 := hvb g hg; have h2 := hdb10 g e; omega)
      have hdb12 : ∀ g, d2.ownBlock = some g → g < w3.heap.size ∨ w4.heap.size ≤ g := by
        intro g hg
        rcases hg12.fresh with h | h
        · exact hdb10 g (by rw [← h]; exact hg)
        · have := h g hg; right; omega
      repeat ((with_reducible apply ws);exact rfl;exact rfl)
      refine wl_appSl tb_bytes tb_bytes rfl rfl rfl (hBw _ hb812).bytes hd12 (by omega) (by simp only [lim, List.length_append]; omega) (fun d3 w13 hd13 hg13 => ?_)
      have hs13 := hg13.grown.size
      have hb813 := hb812.trans (hg13.below (by omega) hd12.ge)
      have hrow13 := Row.kept hrow12 hg13.grown (fun g hg e => by have h1 := hvb g hg; have h2 := hdb12 g e; omega)
      have hdb13 : ∀ g, d3.ownBlock = some g → g < w3.heap.size ∨ w4.heap.size ≤ g := by
        intro g hg
        rcases hg13.fresh with h | h
        · exact hdb12 g (by rw [← h]; exact hg)
        · have := h g hg; right; omega
      repeat first|(with_reducible first|apply wc_region|apply wl_nil|apply qk_thn)|((with_reducible apply ws);exact rfl;exact rfl)
      refine wl_add rfl rfl rfl (r := ((l ++ [(qs[i].1.1, whole qs[i].1.2)]).length : Int)) (by rw [IntKind.wrap_i64]; simp only [List.length_append, List.length_cons, List.length_nil]; omega) ?_
      repeat first|(with_reducible first|apply wc_region|apply wl_nil|apply qk_thn|apply qk_in)|((with_reducible apply ws);exact rfl;exact rfl)
      refine wl_add rfl rfl rfl (r := ((i + 1 : Nat) : Int)) (by rw [IntKind.wrap_i64]; omega) ?_
      repeat first|(with_reducible apply wl_nil)|((with_reducible apply ws);exact rfl;exact rfl)
      refine qk_round ⟨i + 1, d3, l ++ [(qs[i].1.1, whole qs[i].1.2)]⟩ ⟨rfl, rfl, rfl, rfl, rfl, rfl, rfl, trivial⟩ ⟨by simp only []; omega, hw27.trans hb813, by omega, ?_, ?_, hrow13, hdb13⟩ (by simp only []; omega)
      · simp only [tagB_append, tagB_one, wTag]
        simpa only [List.append_assoc] using hd13
      · simp only []
        rw [hl, List.take_succ_eq_append_getElem hlt, List.map_append, List.append_assoc]; rfl
    · refine wc_no rfl (by simpa using hlt) ?_
      repeat (with_reducible first|apply wc_exit|apply qk_thn_exit|apply qk_in_exit|apply qk_round_exit)
      have hla : l = allTags ver true fs t := by
        rw [hl, List.take_of_length_le (by omega), allTags_eq, hoth]
      subst hla
      exact qk_cut ⟨0, d, []⟩ ⟨rfl, rfl, rfl, trivial⟩ ⟨hw5, hd5⟩
  rintro ⟨_, d, _⟩ w4 ⟨hw4, hd4⟩
  simp only [] at hd4
  have hs24 := hw4.size
  have ho4 := ho2.below hw4
  have hal : (allTags ver true fs t).length = (below ver true fs t (known fs)).length + (others fs t.u).length := by rw [allTags_eq, List.length_append]
  have htl : (tagB (allTags ver true fs t)).length = (tagB (below ver true fs t (known fs))).length + (tagB (others fs t.u)).length := by rw [allTags_eq, tagB_append, List.length_append]
  rw [← hal] at hlimA
  have hap := apart_of hd4.ge ho2.lt
  repeat first|(with_reducible first|apply wc_seq|apply wc_region)|((with_reducible apply ws);exact rfl;exact rfl)
  refine wl_conv .u64 rfl ti_i64 ti_u64 rfl (r := ((allTags ver true fs t).length : Int)) (by rw [IntKind.wrap_u64]; simp only [lim] at hlimA; omega) ?_
  refine wl_call rfl (by kernel_rfl) rfl ((fn_uvarint (allTags ver true fs t).length (by simp only [lim] at hlimA; omega) w4).mono ?_)
  rintro e w5 ⟨u1, rfl, hw5, hu1⟩
  refine ⟨u1, rfl, ?_⟩
  have hs5 := hw5.size
  have hd5 := hd4.below hw5
  have ho5 := ho4.below hw5
  refine wl_appSl tb_bytes tb_bytes rfl rfl rfl hu1.bytes ho5 (by omega) (by omega) (fun o1 w6 ho6 hg6 => ?_)
  obtain ⟨hd6, hap6⟩ := hd5.apart hap hg6
  have hs6 := hg6.grown.size
  obtain ⟨da, dc, rfl⟩ := hd6.shape
  repeat ((with_reducible apply ws);exact rfl;exact rfl)
  refine wl_appSl tb_bytes tb_bytes rfl rfl rfl hd6.bytes ho6 (by omega) (by rw [List.length_append]; omega) (fun o2 w7 ho7 hg7 => ?_)
  have hs7 := hg7.grown.size
  repeat first|(with_reducible first|apply wl_nil|apply qk_thn|apply wc_ret)|((with_reducible apply ws);exact rfl;exact rfl)
  refine qk_ret1 rfl rfl ⟨_, rfl, ((((hw02.trans (hw4.mono (by omega))).trans (hw5.mono (by omega))).trans (hg6.below (by omega) (fun g hg => by have := ho5.ge g hg; omega))).trans (hg7.below (by omega) (fun g hg => by have := ho6.ge g hg; omega))), ?_⟩
  rw [wPart_true, ← List.append_assoc]
  exact ho7.mono (by omega)
end
mutual
theorem field_ok : ∀ f : Fld, f.okb = true → FieldOK f ∧ UsualOK f
  | .mk kind fr upto nul tag df of sub, h => by
    have hs : fsok sub = true := fsok.sub h
    have ih := fields_ok sub (by simp only [fsok, Bool.and_eq_true] at hs; exact hs.1)
    have hp := part_of sub hs (fun f hf => (ih f hf).1) (fun f hf => (ih f hf).2)
    exact ⟨field_of _ (fun k => value_of k _ hp) hp, usual_of _ hs (fun g hg => (ih g hg).2)⟩
theorem fields_ok : ∀ fs : List Fld, Fld.oksb fs = true → ∀ f ∈ fs, FieldOK f ∧ UsualOK f
  | [], _, f, hf => by cases hf
  | g :: fs, h, f, hf => by
    simp only [Fld.oksb, Bool.and_eq_true] at h
    have hg := field_ok g h.1
    have hr := fields_ok fs h.2
    rcases List.mem_cons.1 hf with h0 | h1
    · rw [h0]; exact hg
    · exact hr f h1
end
theorem part_ok (fs : List Fld) (h : fsok fs = true) : PartOK fs := by
  have ih := fields_ok fs (by simp only [fsok, Bool.and_eq_true] at h; exact h.1)
  exact part_of fs h (fun f hf => (ih f hf).1) (fun f hf => (ih f hf).2)
end Go.Proofs.YtgpnpfiafcakfaaGreat

namespace Go.Proofs.YtgpnpfiafcakfaaGreat
open Go Go.RowKit
section
set_option maxRecDepth 100000
theorem fn_fits3 (kv : Nat × List UInt8) (B : Nat) (w : World) (ts : List Value) (ht : Rep (Lo B) w (tagD kv) ts) : Fn 25 [.agg ts.toArray] w fun v _ => ∃ b : Bool, v = .bool b := by
 obtain ⟨sv, rfl, hs⟩ := tag_cells ht
 obtain ⟨sa, sc, rfl, _⟩ := hs.shape
 refine enter Tryz.func25 rfl Tryz.ntmps25 rfl ?_
 repeat (with_reducible first|apply wc_seq|apply wc_region)
 refine wl_box1 rfl rfl rfl (fun w1 hb1 hg1 hs1 => ?_)
 have hw1 : Below w.heap.size w w1 := below_of hg1 (Nat.le_refl _) (by simp)
 repeat first|(with_reducible first|apply wc_seq|apply wc_region|apply wl_nil|apply qk_thn)|((with_reducible apply ws);exact rfl;exact rfl)
 refine wl_loadB rfl to_bytes rfl hb1 rfl ?_
 repeat first|(with_reducible first|apply wl_nil|apply qk_thn)|((with_reducible apply ws);exact rfl;exact rfl)
 by_cases h : (2147483647 : Int) < ((kv.2.map byteD).length : Int)
 ·refine wc_yes rfl (by simpa using h) ?_
  repeat first|(with_reducible first|apply wc_seq|apply wc_region|apply wl_nil|apply qk_thn|apply wc_ret|apply qk_thn_ret)|((with_reducible apply ws);exact rfl;exact rfl)
  exact qk_ret1 rfl rfl ⟨_, rfl, hw1, _, rfl⟩
 ·refine wc_no rfl (by simpa using h) ?_
  repeat first|(with_reducible first|apply wc_seq|apply wc_region|apply wl_nil|apply qk_thn|apply wc_skip|apply wc_ret)|((with_reducible apply ws);exact rfl;exact rfl)
  exact qk_ret1 rfl rfl ⟨_, rfl, hw1, _, rfl⟩
theorem fn_fits2 (u : List (Nat × List UInt8)) (B : Nat) (w : World) (uv : Value) (hB : B ≤ w.heap.size) (hu : Sq B w uv (u.map tagD)) : Fn 13 [uv] w fun v _ => ∃ b : Bool, v = .bool b := by
 obtain ⟨ua, uc, rfl, _⟩ := hu.shape
 refine enter Tryz.func13 rfl Tryz.ntmps13 rfl ?_
 repeat first|(with_reducible first|apply wc_seq|apply wc_region|apply wl_nil|apply qk_thn)|((with_reducible apply ws);exact rfl;exact rfl)
 by_cases h : (2147483647 : Int) < ((u.map tagD).length : Int)
 ·refine wc_yes rfl (by simpa using h) ?_
  repeat first|(with_reducible first|apply wc_seq|apply wc_region|apply wl_nil|apply qk_thn|apply wc_ret|apply qk_thn_ret)|((with_reducible apply ws);exact rfl;exact rfl)
  exact qk_ret1 rfl rfl ⟨_, rfl, Below.refl _ _, _, rfl⟩
 ·refine wc_no rfl (by simpa using h) ?_
  repeat first|(with_reducible first|apply wc_seq|apply wc_region|apply wl_nil|apply qk_thn|apply wc_block|apply wc_skip)|((with_reducible apply ws);exact rfl;exact rfl)
  rw [List.length_map] at *
  refine wc_loop (α := Nat) (fun i => [(10, .int .i64 (i : Int)), (9, .int .i64 (u.length : Int)), (8, .slice ua u.length uc)]) (fun i w' => i ≤ u.length ∧ Below w.heap.size w w') (fun i => u.length - i) 0 ⟨rfl, rfl, rfl, trivial⟩ ⟨Nat.zero_le _, Below.refl _ _⟩ ?_
  rintro i w1 ⟨hi, hw1⟩
  repeat first|(with_reducible first|apply wc_seq|apply wc_region|apply wl_nil|apply qk_thn)|((with_reducible apply ws);exact rfl;exact rfl)
  by_cases hlt : i < u.length
  ·refine wc_yes rfl (by simpa using hlt) ?_
   obtain ⟨b, off, c', cs, hv, hbB, hcs, hlen, hr⟩ := (hu.below (hw1.mono hB) (Nat.le_refl _)).get (sz := 2) (i := i) (by intro d hd; obtain ⟨x, _, rfl⟩ := List.mem_map.1 hd; exact tagD_width x) (by simpa using hlt)
   simp only [Value.slice.injEq, List.length_map] at hv
   obtain ⟨rfl, _, rfl⟩ := hv
   simp only [List.getElem_map] at hr
   obtain ⟨hcone, _⟩ := tag_one hr
   repeat (with_reducible first|apply wc_seq|apply wc_region|apply qk_thn|apply wc_block|apply wc_skip)
   refine wl_indexAddr rfl rfl es_tags rfl hlt ?_
   refine wl_loadAgg rfl (by rw [hlen]; exact ta_tag) rfl (fun j v e => hcs.cell e) ?_
   refine wl_alloc zv_tag rfl rfl (fun w8 hb8 hg8 hs8 => ?_)
   refine wl_storeBAgg rfl rfl rfl (by rw [hlen]; exact tz_tag) hcone hb8 (by rw [hlen]; rfl) (fun w9 hb9 hg9 hs9 => ?_)
   have hs1 := hw1.size
   have hw19 : Below w1.heap.size w1 w9 := (below_of hg8 (Nat.le_refl _) (by simp)).trans (below_of hg9 (by omega) (by intro k hk; simp at hk; omega))
   have hs19 := hw19.size
   repeat (with_reducible first|apply wc_seq|apply wc_region|apply wl_nil|apply qk_thn)
   refine wl_loadBAgg rfl (by rw [hlen]; exact ta_tag) rfl hb9 ?_
   refine wl_call rfl (by kernel_rfl) rfl ((fn_fits3 u[i] B w9 _ (Rep.below hr (hw19.mono (by omega)) (Nat.le_refl _))).mono ?_)
   rintro e w10 ⟨v, rfl, hw10, q, rfl⟩
   refine ⟨_, rfl, ?_⟩
   repeat first|(with_reducible first|apply wl_nil|apply qk_thn)|((with_reducible apply ws);exact rfl;exact rfl)
   cases q
   ·refine wc_yes rfl rfl ?_
    repeat first|(with_reducible first|apply wc_seq|apply wc_region|apply wl_nil|apply qk_thn|apply wc_ret|apply qk_thn_ret|apply qk_in_ret|apply qk_round_ret)|((with_reducible apply ws);exact rfl;exact rfl)
    exact qk_ret1 rfl rfl ⟨_, rfl, (hw1.trans (hw19.mono hs1)).trans (hw10.mono (by omega)), _, rfl⟩
   ·refine wc_no rfl rfl ?_
    repeat (with_reducible first|apply wc_region|apply qk_thn|apply wc_skip|apply qk_in)
    refine wl_add rfl rfl rfl (r := ((i + 1 : Nat) : Int)) (by rw [IntKind.wrap_i64]; omega) ?_
    repeat first|(with_reducible apply wl_nil)|((with_reducible apply ws);exact rfl;exact rfl)
    exact qk_round (i + 1) ⟨rfl, rfl, rfl, trivial⟩ ⟨by omega, (hw1.trans (hw19.mono hs1)).trans (hw10.mono (by omega))⟩ (by omega)
  ·refine wc_no rfl (by simpa using hlt) ?_
   repeat first|(with_reducible first|apply wc_seq|apply wc_region|apply wl_nil|apply qk_thn|apply wc_ret|apply wc_exit|apply qk_thn_exit|apply qk_in_exit|apply qk_round_exit)|((with_reducible apply ws);exact rfl;exact rfl)
   exact qk_ret1 rfl rfl ⟨_, rfl, hw1, _, rfl⟩
theorem fn_fits1 (t : Tree) (B : Nat) (w : World) (ts : List Value) (hB : B ≤ w.heap.size) (ht : Rep (Lo B) w (treeD t) ts) : Fn 4 [.agg ts.toArray] w fun v _ => ∃ b : Bool, v = .bool b := by
 obtain ⟨sv, lv, uv, rfl, hs, hl, hu⟩ := tree_cells ht
 obtain ⟨la, lc, rfl, _⟩ := hl.shape
 obtain ⟨sa, sc, rfl, _⟩ := hs.shape
 refine enter Tryz.func4 rfl Tryz.ntmps4 rfl ?_
 repeat (with_reducible first|apply wc_seq|apply wc_region)
 refine wl_box1 rfl rfl rfl (fun w1 hb1 hg1 hs1 => ?_)
 have hw1 : Below w.heap.size w w1 := below_of hg1 (Nat.le_refl _) (by simp)
 repeat first|(with_reducible first|apply wc_seq|apply wc_region|apply wl_nil|apply qk_thn)|((with_reducible apply ws);exact rfl;exact rfl)
 refine wl_loadB rfl to_bytes rfl hb1 rfl ?_
 repeat first|(with_reducible first|apply wl_nil|apply qk_thn)|((with_reducible apply ws);exact rfl;exact rfl)
 by_cases h : (2147483647 : Int) < ((t.s.map byteD).length : Int)
 ·refine wc_yes rfl (by simpa using h) ?_
  repeat first|(with_reducible first|apply wc_seq|apply wc_region|apply wl_nil|apply qk_thn|apply wc_ret|apply qk_thn_ret)|((with_reducible apply ws);exact rfl;exact rfl)
  exact qk_ret1 rfl rfl ⟨_, rfl, hw1, _, rfl⟩
 ·refine wc_no rfl (by simpa using h) ?_
  repeat first|(with_reducible first|apply wc_seq|apply wc_region|apply qk_thn|apply wc_skip)|((with_reducible apply ws);exact rfl;exact rfl)
  refine wl_loadB rfl to_trees rfl hb1 rfl ?_
  repeat first|(with_reducible first|apply wl_nil|apply qk_thn)|((with_reducible apply ws);exact rfl;exact rfl)
  by_cases h : (2147483647 : Int) < ((t.l.map treeD).length : Int)
  ·refine wc_yes rfl (by simpa using h) ?_
   repeat first|(with_reducible first|apply wc_seq|apply wc_region|apply wl_nil|apply qk_thn|apply wc_ret|apply qk_thn_ret)|((with_reducible apply ws);exact rfl;exact rfl)
   exact qk_ret1 rfl rfl ⟨_, rfl, hw1, _, rfl⟩
  ·refine wc_no rfl (by simpa using h) ?_
   repeat first|(with_reducible first|apply wc_seq|apply wc_region|apply qk_thn|apply wc_skip)|((with_reducible apply ws);exact rfl;exact rfl)
   refine wl_loadB rfl to_tags rfl hb1 rfl ?_
   refine wl_call rfl (by kernel_rfl) rfl ((fn_fits2 t.u B w1 _ (by omega) (hu.below (hw1.mono hB) (Nat.le_refl _))).mono ?_)
   rintro e w2 ⟨v, rfl, hw2, q, rfl⟩
   refine ⟨_, rfl, ?_⟩
   repeat first|(with_reducible first|apply wl_nil|apply qk_thn)|((with_reducible apply ws);exact rfl;exact rfl)
   cases q
   ·refine wc_yes rfl rfl ?_
    repeat first|(with_reducible first|apply wc_seq|apply wc_region|apply wl_nil|apply qk_thn|apply wc_ret|apply qk_thn_ret)|((with_reducible apply ws);exact rfl;exact rfl)
    exact qk_ret1 rfl rfl ⟨_, rfl, hw1.trans (hw2.mono (by omega)), _, rfl⟩
   ·refine wc_no rfl rfl ?_
    repeat first|(with_reducible first|apply wc_seq|apply wc_region|apply wl_nil|apply qk_thn|apply wc_skip|apply wc_ret)|((with_reducible apply ws);exact rfl;exact rfl)
    exact qk_ret1 rfl rfl ⟨_, rfl, hw1.trans (hw2.mono (by omega)), _, rfl⟩
theorem fn_write (m : Msg) (hm : fsok m.fields = true) (ver : Int) (t : Tree) (B : Nat) (w : World) (fv : Value) (ts : List Value) (hok : t.ok) (hB : B ≤ w.heap.size) (hf : Sq B w fv (m.fields.map fldD)) (ht : Rep (Lo B) w (treeD t) ts) (hlim : (write m ver t).length ≤ lim) :
  Fn 12 [.agg #[fv, .int .i64 m.flex], .int .i64 ver, .agg ts.toArray] w fun v w' => Own w' w.heap.size 5 v (write m ver t) := by
 obtain ⟨sv, lv, uv, rfl, _, _, _⟩ := tree_cells ht
 obtain ⟨fa, fc, rfl, _⟩ := hf.shape
 refine enter Tryz.func12 rfl Tryz.ntmps12 rfl ?_
 repeat (with_reducible first|apply wc_seq|apply wc_region)
 refine wl_box1 (cs := [.slice fa (m.fields.map fldD).length fc, .int .i64 m.flex]) rfl rfl rfl (fun w1 hb1 hg1 hs1 => wl_box1 rfl rfl rfl (fun w2 hb2 hg2 hs2 => ?_))
 have hb12 := hb1.kept hg2 (by simp)
 have hw2 : Below w.heap.size w w2 := (below_of hg1 (Nat.le_refl _) (by simp)).trans (below_of hg2 (by omega) (by simp))
 have hcall : ∀ flex, m.flexible ver = flex → _ := fun flex hfx => part_ok m.fields hm flex ver t B w2 _ _ hok (by omega) (hf.below (hw2.mono hB) (Nat.le_refl _)) (ht.below (hw2.mono hB) (Nat.le_refl _)) (by rw [← hfx]; exact hlim)
 repeat first|(with_reducible first|apply wc_seq|apply wc_region|apply wl_nil|apply qk_thn)|((with_reducible apply ws);exact rfl;exact rfl)
 refine wl_loadB rfl to_flds rfl hb12 rfl ?_
 repeat ((with_reducible apply ws);exact rfl;exact rfl)
 refine wl_loadB rfl to_int rfl hb12 rfl ?_
 repeat ((with_reducible apply ws);exact rfl;exact rfl)
 by_cases h0 : 0 ≤ m.flex
 ·have e1 : decide (0 ≤ m.flex) = true := by simpa using h0
  rw [e1]
  repeat first|((with_reducible apply ws);exact rfl;exact rfl)|((with_reducible apply wl_yes);exact rfl;exact rfl;exact rfl)
  refine wl_loadB rfl to_int rfl hb12 rfl ?_
  repeat first|((with_reducible apply ws);exact rfl;exact rfl)|((with_reducible apply wl_yes);exact rfl;exact rfl;exact rfl)
  refine wl_loadBAgg (cs := [.int .i64 t.n, sv, .bool t.nul, lv, uv]) rfl ta_tree rfl hb2 ?_
  refine wl_call rfl (by kernel_rfl) rfl ((hcall (decide (m.flex ≤ ver)) (by simp [Msg.flexible, h0])).mono ?_)
  rintro e w3 ⟨v, rfl, hw3, ho⟩
  refine ⟨v, rfl, ?_⟩
  repeat first|(with_reducible first|apply wl_nil|apply qk_thn|apply wc_ret)|((with_reducible apply ws);exact rfl;exact rfl)
  have e2 : m.flexible ver = decide (m.flex ≤ ver) := by simp [Msg.flexible, h0]
  refine qk_ret1 rfl rfl ⟨_, rfl, hw2.trans (hw3.mono (by omega)), ?_⟩
  rw [write, e2]
  exact ho.mono (by omega)
 ·have e1 : decide (0 ≤ m.flex) = false := by simpa using h0
  rw [e1]
  repeat first|((with_reducible apply ws);exact rfl;exact rfl)|((with_reducible apply wl_no);exact rfl;exact rfl;exact rfl;exact rfl)
  refine wl_loadBAgg (cs := [.int .i64 t.n, sv, .bool t.nul, lv, uv]) rfl ta_tree rfl hb2 ?_
  refine wl_call rfl (by kernel_rfl) rfl ((hcall false (by simp [Msg.flexible, h0])).mono ?_)
  rintro e w3 ⟨v, rfl, hw3, ho⟩
  refine ⟨v, rfl, ?_⟩
  repeat first|(with_reducible first|apply wl_nil|apply qk_thn|apply wc_ret)|((with_reducible apply ws);exact rfl;exact rfl)
  have e2 : m.flexible ver = false := by simp [Msg.flexible, h0]
  refine qk_ret1 rfl rfl ⟨_, rfl, hw2.trans (hw3.mono (by omega)), ?_⟩
  rw [write, e2]
  exact ho.mono (by omega)
end
end Go.Proofs.YtgpnpfiafcakfaaGreat

namespace Go.Proofs.YtgpnpfiafcakfaaGreat
open Go Go.RowKit
def partOff (P : Program) (s f : Nat) : Option Nat :=
 match P.underlying s with
 | some (.struct fs) => (match fs[f]? with | some fd => (if tyOne P fd.type then some fd.offset else none) | none => none)
 | _ => none
section
variable {P : Program} {ops : Array Oper} {Q : Exit → Act → World → Prop} {N : Nat} {rest : List Oper} {L : Sl} {w : World} {d : Nat} {ty : TypeId} {pos : String} {aft : Array Edge}
end
end Go.Proofs.YtgpnpfiafcakfaaGreat

namespace Go.Proofs.YtgpnpfiafcakfaaGreat
open Go Go.RowKit
theorem fill_many (sz : Nat) : ∀ (css : List (List Value)) (k : Nat) (pre post : List Value), pre.length = k * sz → (∀ cs ∈ css, cs.length = sz) → post.length = css.length * sz →
  Instr.fill (fun i => some (i * sz, sz)) (pre ++ post).toArray ((css.zipIdx k).map fun p => (p.2, Value.agg p.1.toArray)) = some (pre ++ css.flatten).toArray
 | [], k, pre, post, _, _, hl => by
  have : post = [] := List.length_eq_zero_iff.1 (by simpa using hl)
  subst this; simp [Instr.fill]
 | cs :: css, k, pre, post, hp, hc, hl => by
  have hcs := hc cs (by simp)
  simp only [List.length_cons, Nat.succ_mul] at hl
  obtain ⟨a, b, rfl, ha⟩ : ∃ a b, post = a ++ b ∧ a.length = sz := ⟨post.take sz, post.drop sz, (List.take_append_drop _ _).symm, by rw [List.length_take]; omega⟩
  have hb : b.length = css.length * sz := by rw [List.length_append] at hl; omega
  simp only [List.zipIdx_cons, List.map_cons, Instr.fill]
  have h1 : ¬ ((Value.agg cs.toArray).cells.size ≠ sz) := by simp [Value.cells, hcs]
  have h2 : ¬ (k * sz + (Value.agg cs.toArray).cells.size > (pre ++ (a ++ b)).toArray.size) := by simp [Value.cells, hcs, hp, ha]
  simp only [h1, h2, decide_false, Bool.or_false, Bool.false_eq_true, if_false]
  have hf := fold_sets (k * sz) cs 0 pre a (by simpa using hp) (by rw [ha, hcs])
  have hf2 : ((Value.agg cs.toArray).cells.zipIdx.foldl (fun cs p => cs.setIfInBounds (k * sz + p.2) p.1) (pre ++ (a ++ b)).toArray) = (pre ++ cs ++ b).toArray := by
   have hz : cs.toArray.zipIdx = (cs.zipIdx).toArray := by apply Array.ext'; simp
   simp only [Value.cells]
   rw [hz]
   simp only [List.foldl_toArray]
   have gen : ∀ (l : List Value) (j : Nat) (p q r : List Value), p.length = k * sz + j → q.length = l.length →
     (l.zipIdx j).foldl (fun cs p => cs.setIfInBounds (k * sz + p.2) p.1) (p ++ (q ++ r)).toArray = (p ++ (l ++ r)).toArray := by
    intro l
    induction l with
    | nil => intro j p q r _ hq; have : q = [] := List.length_eq_zero_iff.1 (by simpa using hq); subst this; rfl
    | cons v l ih =>
     intro j p q r hp hq
     cases q with
     | nil => cases hq
     | cons x q =>
      simp only [List.zipIdx_cons, List.foldl_cons]
      have hset : (p ++ (x :: q ++ r)).toArray.setIfInBounds (k * sz + j) v = ((p ++ [v]) ++ (q ++ r)).toArray := by
       rw [List.setIfInBounds_toArray, ← hp]; simp
      rw [hset, ih (j + 1) (p ++ [v]) q r (by simp [hp]; omega) (by simpa using hq)]
      simp
   have := gen cs 0 pre a b (by simpa using hp) (by rw [ha, hcs])
   simpa [List.append_assoc] using this
  rw [hf2]
  have ih := fill_many sz css (k + 1) (pre ++ cs) b (by simp [hp, hcs, Nat.succ_mul]) (fun c h => hc c (by simp [h])) hb
  rw [ih]
  simp
section
variable {P : Program} {ops : Array Oper} {Q : Exit → Act → World → Prop} {N : Nat} {rest : List Oper} {L : Sl} {w : World} {d : Nat} {ty : TypeId} {pos : String} {aft : Array Edge}
theorem wl_sliceN {t e sz n : Nat} {ps : List (Nat × Operand)} {vs : List Value} (css : List (List Value)) (hT : rowTy P t e sz = true) (hps : evp L 0 ps = some vs) (hvs : vs = css.map fun cs => Value.agg cs.toArray) (hlen : ∀ cs ∈ css, cs.length = sz) (hn : n = css.length) (hsz : (Nat.blt 0 sz && Nat.ble (n * sz) 16777216 && Nat.blt 0 n) = true) (hd : Nat.blt d N = true)
  (h : ∀ w', Box w' w.heap.size css.flatten e → w.grownBy w' none → w'.heap.size = w.heap.size + 1 → WL rest P ops Q N ((d, .slice (some ⟨w.heap.size, 0, none⟩) n n) :: L) w') :
  WL (⟨some d, .buildSlice t n ps.toArray, ty, pos, aft, none⟩ :: rest) P ops Q N L w := by
 intro a k
 obtain ⟨hu, i, z, hi, hs1, hb1, hz, hzc⟩ := rowTy_out hT
 simp only [Bool.and_eq_true] at hsz
 have hsz1 : 0 < sz := Nat.le_of_ble_eq_true hsz.1.1
 have hsz2 := Nat.le_of_ble_eq_true hsz.1.2
 have hn0 : 0 < n := Nat.le_of_ble_eq_true hsz.2
 refine st_of (o := ⟨some d, .buildSlice t n ps.toArray, ty, pos, aft, none⟩) (v := .slice (some ⟨w.heap.size, 0, none⟩) n n) (w' := w.alloc (.cells css.flatten.toArray e)) rfl ?_ (h _ (box_alloc w _ e) (grown_alloc w _) (by simp) _ (k.put _ hd))
 have hparts := evp_spec k ps 0 _ hps
 have hm : (ps.toArray.map fun x => (x.1, a.eval x.2)).toList = (css.zipIdx 0).map fun p => (p.2, Value.agg p.1.toArray) := by
  rw [hvs] at hparts
  have e1 : (ps.toArray.map fun x => (x.1, a.eval x.2)).toList = ps.map fun p => (p.1, a.eval p.2) := by simp
  rw [e1, hparts]
  rw [List.zipIdx_map, List.map_map]
  rfl
 have hfill := fill_many sz css 0 [] ((List.range (n * sz)).map (z.cells[· % z.cells.size]!)) (by simp) hlen (by simp [hn])
 simp only [List.nil_append] at hfill
 have hmul : 0 < n * sz := Nat.mul_pos hn0 hsz1
 simp only [execOp, Instr.buildSlice]
 simp only [Sem.run_bind, run_underlying hu, Result.andThen_ok, sizeOf, typeInfo, run_program, hi, Sem.run_pure, hs1]
 rw [show ((2 : Nat) ^ 24) = 16777216 from rfl, if_neg (by omega), if_neg (by omega)]
 simp only [zeroValue, typeInfo, Sem.run_bind, run_program, Result.andThen_ok, hi, Sem.run_pure, hz]
 rw [hm, ← List.toArray_range, List.map_toArray, hfill]
 simp [newRow]
end
end Go.Proofs.YtgpnpfiafcakfaaGreat

namespace Go.Proofs.YtgpnpfiafcakfaaGreat.Rdk
open Go Go.RowKit
theorem to_bytes : tyOne Tryz.prog 22 = true := by kernel_rfl
theorem to_bool : tyOne Tryz.prog 4 = true := by kernel_rfl
theorem to_u8 : tyOne Tryz.prog 5 = true := by kernel_rfl
theorem es_bytes : elemSize Tryz.prog 22 = some 1 := by kernel_rfl
end Go.Proofs.YtgpnpfiafcakfaaGreat.Rdk

namespace Go.Proofs.YtgpnpfiafcakfaaGreat.Rdk
open Go Go.RowKit
section
variable {P : Program} {a : Act} {w : World} {N : Nat} {L : Sl} {d : Option Tmp} {ty : TypeId} {pos : String} {aft : Array Edge} {g : Option (Nat × Bool)}
end
end Go.Proofs.YtgpnpfiafcakfaaGreat.Rdk

namespace Go.Proofs.YtgpnpfiafcakfaaGreat.Rdk
open Go Go.RowKit
set_option maxRecDepth 100000
end Go.Proofs.YtgpnpfiafcakfaaGreat.Rdk

namespace Go.Proofs.YtgpnpfiafcakfaaGreat.Rdk
open Go Go.RowKit
set_option maxRecDepth 100000
end Go.Proofs.YtgpnpfiafcakfaaGreat.Rdk
