/- How many groups of seven bits a number has, and the function that appends it so. -/
import Derived.Test.YtaoecdeljfdmeaaKbinA

namespace Go.Proofs.Ytaoecdeljfdmeaa
open Go Go.RowKit

def tabOk (s : ByteArray) (n : Nat) (f : Nat → Nat → Bool) : Bool := (List.range n).all fun i => match s.data[i]? with | some c => f i c.toNat | none => false
section
variable {P : Program} {ops : Array Oper} {Q : Exit → Act → World → Prop} {N : Nat} {rest : List Oper} {L : Sl} {w : World} {d : Nat} {ty : TypeId} {pos : String} {aft : Array Edge}
theorem wl_tab {x y : Operand} {t : TypeId} {s : ByteArray} {kk : IntKind} {m : Int} (i n : Nat) (f : Nat → Nat → Bool) (hx : ev L x = some (.string s)) (hy : ev L y = some (.int kk m)) (ht : (match P.underlying t with | some .string => true | _ => false) = true) (hd : Nat.blt d N = true)
    (hm : m = (i : Int)) (hi : i < n) (hs : tabOk s n f = true) (h : ∀ c : Nat, f i c = true → WL rest P ops Q N ((d, .int .u8 (c : Int)) :: L) w) :
    WL (⟨some d, .index t x y, ty, pos, aft, none⟩ :: rest) P ops Q N L w := by
  unfold tabOk at hs
  have h1 := List.all_eq_true.1 hs i (List.mem_range.2 hi)
  cases hc : s.data[i]? with
  | none => rw [hc] at h1; cases h1
  | some c => rw [hc] at h1; exact wl_index hx hy ht hd hm hc (h c.toNat h1)
end
/-- c is the number of bits of i. -/
def bitsAre (i c : Nat) : Bool := decide (i < 2 ^ c) && decide (c = 0 ∨ 2 ^ (c - 1) ≤ i) && decide (c ≤ 8)
def groupsAre (i c : Nat) : Bool := if i ≤ 7 then c == 1 else if i ≤ 14 then c == 2 else if i ≤ 21 then c == 3 else if i ≤ 28 then c == 4 else c == 5
theorem bits_up (x c s : Nat) (u : Nat) (h : bitsAre x c = true) (hx : x = u / 2 ^ s) (hp : 0 < x) : u < 2 ^ (c + s) ∧ 2 ^ (c + s - 1) ≤ u ∧ 0 < c ∧ c ≤ 8 := by
  simp only [bitsAre, Bool.and_eq_true, decide_eq_true_eq] at h
  obtain ⟨⟨h1, h2⟩, h3⟩ := h
  have hc : 0 < c := by rcases Nat.eq_zero_or_pos c with rfl | h; · simp at h1; omega
                        · exact h
  have hs := Nat.two_pow_pos s
  refine ⟨?_, ?_, hc, h3⟩
  · rw [Nat.pow_add]
    exact (Nat.div_lt_iff_lt_mul hs).1 (hx ▸ h1)
  · have h4 : 2 ^ (c - 1) ≤ u / 2 ^ s := by rw [← hx]; omega
    have := (Nat.le_div_iff_mul_le hs).1 h4
    rw [← Nat.pow_add] at this
    rw [show c + s - 1 = c - 1 + s from by omega]; exact this

section
set_option maxRecDepth 100000
/-- The bits of a number: r of them. -/
def BitsOf (u r : Nat) : Prop := u < 2 ^ r ∧ (r = 0 ∨ 2 ^ (r - 1) ≤ u) ∧ r ≤ 32
theorem len32 (u : Nat) (hu : u < 4294967296) (w : World) : Calls Try.prog 74 #[.int .u32 (u : Int)] w fun e w' => (∃ r : Nat, e = .returned (.int .i64 (r : Int)) ∧ BitsOf u r) ∧ w' = w := by
  refine enter (vs := [.int .u32 (u : Int)]) Try.func74 rfl Try.ntmps74 rfl ?_
  refine wc_seq (wc_region (wl_assign rfl rfl (wl_nil (qk_thn ?_))))
  refine wc_seq (wc_seq (wc_region ?_))
  repeat (first
    | ((with_reducible apply wl_move); exact rfl; exact rfl)
    | ((with_reducible apply wl_assign); exact rfl; exact rfl)
    | ((with_reducible apply wl_nilCheck); exact rfl; exact rfl)
    | ((with_reducible apply wl_lss); exact rfl; exact rfl; exact rfl)
    | ((with_reducible apply wl_leq); exact rfl; exact rfl; exact rfl)
    | ((with_reducible apply wl_gtr); exact rfl; exact rfl; exact rfl)
    | ((with_reducible apply wl_geq); exact rfl; exact rfl; exact rfl)
    | ((with_reducible apply wl_eql); exact rfl; exact rfl; exact rfl)
    | ((with_reducible apply wl_not); exact rfl; exact rfl))
  refine wl_nil (qk_thn ?_)
  by_cases h16 : 65536 ≤ u
  · refine wc_yes rfl (by simp; omega) ?_
    refine wc_seq (wc_region ?_)
    refine wl_move rfl rfl (wl_shr rfl rfl rfl (shr_nat u 16 32 (by omega)) (wl_assign rfl rfl (wl_nil (qk_thn (wc_region (wl_assign rfl rfl (wl_nil (qk_thn ?_))))))))
    refine wc_seq (wc_seq (wc_region ?_))
    repeat (first
    | ((with_reducible apply wl_move); exact rfl; exact rfl)
    | ((with_reducible apply wl_assign); exact rfl; exact rfl)
    | ((with_reducible apply wl_nilCheck); exact rfl; exact rfl)
    | ((with_reducible apply wl_lss); exact rfl; exact rfl; exact rfl)
    | ((with_reducible apply wl_leq); exact rfl; exact rfl; exact rfl)
    | ((with_reducible apply wl_gtr); exact rfl; exact rfl; exact rfl)
    | ((with_reducible apply wl_geq); exact rfl; exact rfl; exact rfl)
    | ((with_reducible apply wl_eql); exact rfl; exact rfl; exact rfl)
    | ((with_reducible apply wl_not); exact rfl; exact rfl))
    refine wl_nil (qk_thn ?_)
    by_cases h24 : 256 ≤ u / 2 ^ 16
    · refine wc_yes rfl (by simp; omega) ?_
      refine wc_seq (wc_region ?_)
      refine wl_move rfl rfl (wl_shr rfl rfl rfl (shr_nat (u / 2 ^ 16) 8 32 (by omega)) (wl_assign rfl rfl (wl_nil (qk_thn (wc_region (wl_move rfl rfl (wl_add rfl rfl rfl (r := 24) (by decide) (wl_assign rfl rfl (wl_nil (qk_thn ?_))))))))))
      refine wc_seq (wc_region ?_)
      refine wl_move rfl rfl (wl_move rfl rfl (wl_conv .u8 rfl (by kernel_rfl) (by kernel_rfl) rfl (r := ((u / 2 ^ 16 / 2 ^ 8 : Nat) : Int)) (by rw [IntKind.wrap_u8]; omega) ?_))
      refine wl_tab (u / 2 ^ 16 / 2 ^ 8) 256 bitsAre rfl rfl (by kernel_rfl) rfl rfl (by omega) (by kernel_rfl) (fun c hc => ?_)
      obtain ⟨b1, b2, b3, b4⟩ := bits_up _ c 24 u hc (by rw [Nat.div_div_eq_div_mul]) (by omega)
      refine wl_conv .i64 rfl (by kernel_rfl) (by kernel_rfl) rfl (r := (c : Int)) (by rw [IntKind.wrap_i64]; omega) ?_
      refine wl_add rfl rfl rfl (r := ((c + 24 : Nat) : Int)) (by rw [IntKind.wrap_i64]; omega) (wl_assign rfl rfl (wl_nil (qk_thn ?_)))
      exact wc_ret (qk_ret1 rfl rfl ⟨⟨_, rfl, b1, .inr b2, by omega⟩, rfl⟩)
    · refine wc_no rfl (by simp; omega) (wc_skip (qk_thn ?_))
      refine wc_seq (wc_region ?_)
      refine wl_move rfl rfl (wl_move rfl rfl (wl_conv .u8 rfl (by kernel_rfl) (by kernel_rfl) rfl (r := ((u / 2 ^ 16 : Nat) : Int)) (by rw [IntKind.wrap_u8]; omega) ?_))
      refine wl_tab (u / 2 ^ 16) 256 bitsAre rfl rfl (by kernel_rfl) rfl rfl (by omega) (by kernel_rfl) (fun c hc => ?_)
      obtain ⟨b1, b2, b3, b4⟩ := bits_up _ c 16 u hc rfl (by omega)
      refine wl_conv .i64 rfl (by kernel_rfl) (by kernel_rfl) rfl (r := (c : Int)) (by rw [IntKind.wrap_i64]; omega) ?_
      refine wl_add rfl rfl rfl (r := ((c + 16 : Nat) : Int)) (by rw [IntKind.wrap_i64]; omega) (wl_assign rfl rfl (wl_nil (qk_thn ?_)))
      exact wc_ret (qk_ret1 rfl rfl ⟨⟨_, rfl, b1, .inr b2, by omega⟩, rfl⟩)
  · refine wc_no rfl (by simp; omega) (wc_skip (qk_thn ?_))
    refine wc_seq (wc_seq (wc_region ?_))
    repeat (first
    | ((with_reducible apply wl_move); exact rfl; exact rfl)
    | ((with_reducible apply wl_assign); exact rfl; exact rfl)
    | ((with_reducible apply wl_nilCheck); exact rfl; exact rfl)
    | ((with_reducible apply wl_lss); exact rfl; exact rfl; exact rfl)
    | ((with_reducible apply wl_leq); exact rfl; exact rfl; exact rfl)
    | ((with_reducible apply wl_gtr); exact rfl; exact rfl; exact rfl)
    | ((with_reducible apply wl_geq); exact rfl; exact rfl; exact rfl)
    | ((with_reducible apply wl_eql); exact rfl; exact rfl; exact rfl)
    | ((with_reducible apply wl_not); exact rfl; exact rfl))
    refine wl_nil (qk_thn ?_)
    by_cases h8 : 256 ≤ u
    · refine wc_yes rfl (by simp; omega) ?_
      refine wc_seq (wc_region ?_)
      refine wl_move rfl rfl (wl_shr rfl rfl rfl (shr_nat u 8 32 (by omega)) (wl_assign rfl rfl (wl_nil (qk_thn (wc_region (wl_move rfl rfl (wl_add rfl rfl rfl (r := 8) (by decide) (wl_assign rfl rfl (wl_nil (qk_thn ?_))))))))))
      refine wc_seq (wc_region ?_)
      refine wl_move rfl rfl (wl_move rfl rfl (wl_conv .u8 rfl (by kernel_rfl) (by kernel_rfl) rfl (r := ((u / 2 ^ 8 : Nat) : Int)) (by rw [IntKind.wrap_u8]; omega) ?_))
      refine wl_tab (u / 2 ^ 8) 256 bitsAre rfl rfl (by kernel_rfl) rfl rfl (by omega) (by kernel_rfl) (fun c hc => ?_)
      obtain ⟨b1, b2, b3, b4⟩ := bits_up _ c 8 u hc rfl (by omega)
      refine wl_conv .i64 rfl (by kernel_rfl) (by kernel_rfl) rfl (r := (c : Int)) (by rw [IntKind.wrap_i64]; omega) ?_
      refine wl_add rfl rfl rfl (r := ((c + 8 : Nat) : Int)) (by rw [IntKind.wrap_i64]; omega) (wl_assign rfl rfl (wl_nil (qk_thn ?_)))
      exact wc_ret (qk_ret1 rfl rfl ⟨⟨_, rfl, b1, .inr b2, by omega⟩, rfl⟩)
    · refine wc_no rfl (by simp; omega) (wc_skip (qk_thn ?_))
      refine wc_seq (wc_region ?_)
      refine wl_move rfl rfl (wl_move rfl rfl (wl_conv .u8 rfl (by kernel_rfl) (by kernel_rfl) rfl (r := (u : Int)) (by rw [IntKind.wrap_u8]; omega) ?_))
      refine wl_tab u 256 bitsAre rfl rfl (by kernel_rfl) rfl rfl (by omega) (by kernel_rfl) (fun c hc => ?_)
      simp only [bitsAre, Bool.and_eq_true, decide_eq_true_eq] at hc
      obtain ⟨⟨b1, b2⟩, b3⟩ := hc
      refine wl_conv .i64 rfl (by kernel_rfl) (by kernel_rfl) rfl (r := (c : Int)) (by rw [IntKind.wrap_i64]; omega) ?_
      refine wl_add rfl rfl rfl (r := (c : Int)) (by rw [IntKind.wrap_i64]; omega) (wl_assign rfl rfl (wl_nil (qk_thn ?_)))
      exact wc_ret (qk_ret1 rfl rfl ⟨⟨_, rfl, b1, b2, by omega⟩, rfl⟩)

theorem uvarintLen (u : Nat) (hu : u < 4294967296) (w : World) : Calls Try.prog 66 #[.int .u32 (u : Int)] w fun e w' => (∃ r c : Nat, e = .returned (.int .i64 (c : Int)) ∧ BitsOf u r ∧ groupsAre r c = true) ∧ w' = w := by
  refine enter (vs := [.int .u32 (u : Int)]) Try.func66 rfl Try.ntmps66 rfl ?_
  refine wc_seq (wc_region (wl_assign rfl rfl (wl_nil (qk_thn ?_))))
  refine wc_seq (wc_region ?_)
  refine wl_move rfl rfl (wl_call rfl (by kernel_rfl) rfl ((len32 u hu w).mono ?_))
  rintro e w' ⟨⟨r, rfl, hr⟩, rfl⟩
  have hr32 := hr.2.2
  refine ⟨_, rfl, ?_⟩
  refine wl_conv .u8 rfl (by kernel_rfl) (by kernel_rfl) rfl (r := (r : Int)) (by rw [IntKind.wrap_u8]; omega) ?_
  refine wl_tab r 33 groupsAre rfl rfl (by kernel_rfl) rfl rfl (by omega) (by kernel_rfl) (fun c hc => ?_)
  have hc5 : c ≤ 5 := by unfold groupsAre at hc; split at hc <;> (try split at hc) <;> (try split at hc) <;> (try split at hc) <;> simp at hc <;> omega
  refine wl_conv .i64 rfl (by kernel_rfl) (by kernel_rfl) rfl (r := (c : Int)) (by rw [IntKind.wrap_i64]; omega) ?_
  refine wl_assign rfl rfl (wl_nil (qk_thn ?_))
  exact wc_ret (qk_ret1 rfl rfl ⟨⟨r, c, rfl, hr, hc⟩, rfl⟩)
end
end Go.Proofs.Ytaoecdeljfdmeaa
