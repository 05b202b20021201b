/- The package's functions that append: what each adds to the bytes that the call owns. -/
import Derived.Test.YtaoecdeljfdmeaaProg
import Derived.Test.YtaoecdeljfdmeaaTypes
namespace Go.Proofs.Ytaoecdeljfdmeaa
open Go Go.RowKit

/-- The function F, called with a slice that the call owns and the arguments vs, adds the bytes ys; 'pre' is what must hold of the world. -/
def AppW (F : FuncId) (vs : List Value) (pre : World → Nat → Prop) (ys : List UInt8) : Prop :=
  ∀ (d : Value) (w : World) (B : Nat) (xs : List UInt8), pre w B → Own w B 5 d xs → B ≤ w.heap.size → xs.length + ys.length ≤ lim →
    Calls Try.prog F (d :: vs).toArray w fun e w' => ∃ d', e = .returned d' ∧ Own w' B 5 d' (xs ++ ys) ∧ Grew w w' d d'
def App (F : FuncId) (vs : List Value) (ys : List UInt8) : Prop := AppW F vs (fun _ _ => True) ys

theorem u32_bytes (u : Int) : [Value.int .u8 (IntKind.u8.wrap (u.fdiv (2 ^ (min (24 : Int).toNat IntKind.u32.bits)))), .int .u8 (IntKind.u8.wrap (u.fdiv (2 ^ (min (16 : Int).toNat IntKind.u32.bits)))), .int .u8 (IntKind.u8.wrap (u.fdiv (2 ^ (min (8 : Int).toNat IntKind.u32.bits)))), .int .u8 (IntKind.u8.wrap u)] = bv (be 4 u) := by
  simp only [wrap_u8, be, bv, List.map_cons, List.map_nil]
  simp [IntKind.bits, Int.fdiv_eq_ediv_of_nonneg]
theorem u16_bytes (u : Int) : [Value.int .u8 (IntKind.u8.wrap (u.fdiv (2 ^ (min (8 : Int).toNat IntKind.u16.bits)))), .int .u8 (IntKind.u8.wrap u)] = bv (be 2 u) := by
  simp only [wrap_u8, be, bv, List.map_cons, List.map_nil]
  simp [IntKind.bits, Int.fdiv_eq_ediv_of_nonneg]
theorem u64_bytes (u : Int) : [Value.int .u8 (IntKind.u8.wrap (u.fdiv (2 ^ (min (56 : Int).toNat IntKind.u64.bits)))), .int .u8 (IntKind.u8.wrap (u.fdiv (2 ^ (min (48 : Int).toNat IntKind.u64.bits)))), .int .u8 (IntKind.u8.wrap (u.fdiv (2 ^ (min (40 : Int).toNat IntKind.u64.bits)))), .int .u8 (IntKind.u8.wrap (u.fdiv (2 ^ (min (32 : Int).toNat IntKind.u64.bits)))),
    .int .u8 (IntKind.u8.wrap (u.fdiv (2 ^ (min (24 : Int).toNat IntKind.u64.bits)))), .int .u8 (IntKind.u8.wrap (u.fdiv (2 ^ (min (16 : Int).toNat IntKind.u64.bits)))), .int .u8 (IntKind.u8.wrap (u.fdiv (2 ^ (min (8 : Int).toNat IntKind.u64.bits)))), .int .u8 (IntKind.u8.wrap u)] = bv (be 8 u) := by
  simp only [wrap_u8, be, bv, List.map_cons, List.map_nil]
  simp [IntKind.bits, Int.fdiv_eq_ediv_of_nonneg]
theorem lowByte_mod (m : Nat) (h : (256 : Int) ∣ m) (z : Int) : lowByte (z % m) = lowByte z := by
  unfold lowByte
  rw [Int.emod_emod_of_dvd _ h]
theorem ediv_emod_pow (z : Int) (a b : Nat) : (z % (2 ^ (a + b) : Nat)) / (2 ^ a : Nat) = (z / (2 ^ a : Nat)) % (2 ^ b : Nat) := by
  have hp : (0 : Int) < (2 ^ a : Nat) := by exact_mod_cast Nat.two_pow_pos a
  have h1 : ((2 ^ (a + b) : Nat) : Int) = (2 ^ a : Nat) * (2 ^ b : Nat) := by rw [Nat.pow_add, Int.natCast_mul]
  rw [h1, Int.emod_def, Int.emod_def, Int.ediv_ediv_of_nonneg (Int.le_of_lt hp), Int.sub_eq_add_neg, Int.mul_assoc, ← Int.mul_neg, Int.add_mul_ediv_left _ _ (Int.ne_of_gt hp), ← Int.sub_eq_add_neg]
theorem be_mod : ∀ (k m : Nat) (z : Int), 8 * k ≤ m → be k (z % (2 ^ m : Nat)) = be k z
  | 0, _, _, _ => rfl
  | k + 1, m, z, h => by
    simp only [be]
    rw [be_mod k m z (by omega)]
    congr 1
    obtain ⟨b, rfl⟩ : ∃ b, m = 8 * k + b := ⟨m - 8 * k, by omega⟩
    rw [ediv_emod_pow]
    refine lowByte_mod _ ?_ _
    have : 8 ≤ b := by omega
    obtain ⟨c, rfl⟩ : ∃ c, b = 8 + c := ⟨b - 8, by omega⟩
    rw [Nat.pow_add]
    exact ⟨((2 ^ c : Nat) : Int), by rw [Int.natCast_mul]; rfl⟩

section
set_option maxRecDepth 100000
theorem appendUint32 (u : Int) : App 73 [.int .u32 u] (be 4 u) := by
  intro d w B xs _ hown hB hlim
  refine enter Try.func73 rfl Try.ntmps73 rfl ?_
  refine wc_seq (wc_region (wl_assign rfl rfl (wl_nil (qk_thn ?_))))
  refine wc_seq (wc_region ?_)
  repeat (first
    | refine wl_move rfl rfl ?_
    | refine wl_shr rfl rfl rfl rfl ?_
    | refine wl_conv .u8 rfl (by kernel_rfl) (by kernel_rfl) rfl rfl ?_)
  refine wl_appLit (by kernel_rfl) rfl (u32_bytes u) rfl rfl rfl rfl rfl hown hB hlim (fun d' w' ho hg => ?_)
  refine wl_assign rfl rfl (wl_nil (qk_thn ?_))
  exact wc_ret (qk_ret1 rfl rfl ⟨d', rfl, ho, hg⟩)
theorem appendUint16 (u : Int) : App 65 [.int .u16 u] (be 2 u) := by
  intro d w B xs _ hown hB hlim
  refine enter Try.func65 rfl Try.ntmps65 rfl ?_
  refine wc_seq (wc_region (wl_assign rfl rfl (wl_nil (qk_thn ?_))))
  refine wc_seq (wc_region ?_)
  repeat (first
    | refine wl_move rfl rfl ?_
    | refine wl_shr rfl rfl rfl rfl ?_
    | refine wl_conv .u8 rfl (by kernel_rfl) (by kernel_rfl) rfl rfl ?_)
  refine wl_appLit (by kernel_rfl) rfl (u16_bytes u) rfl rfl rfl rfl rfl hown hB hlim (fun d' w' ho hg => ?_)
  refine wl_assign rfl rfl (wl_nil (qk_thn ?_))
  exact wc_ret (qk_ret1 rfl rfl ⟨d', rfl, ho, hg⟩)
theorem appendInt32 (u : Int) : App 62 [.int .i32 u] (be 4 u) := by
  intro d w B xs _ hown hB hlim
  refine enter Try.func62 rfl Try.ntmps62 rfl ?_
  refine wc_seq (wc_region (wl_assign rfl rfl (wl_nil (qk_thn ?_))))
  refine wc_seq (wc_region ?_)
  repeat (first
    | refine wl_move rfl rfl ?_
    | refine wl_conv .u32 rfl (by kernel_rfl) (by kernel_rfl) rfl rfl ?_)
  have hb : be 4 (IntKind.u32.wrap u) = be 4 u := by rw [IntKind.wrap_u32]; exact be_mod 4 32 u (by omega)
  refine wl_call rfl (by kernel_rfl) rfl ((appendUint32 (IntKind.u32.wrap u) d w B xs trivial hown hB (by rw [hb]; exact hlim)).mono ?_)
  rintro e w' ⟨d', rfl, ho, hg⟩
  rw [hb] at ho
  refine ⟨d', rfl, wl_assign rfl rfl (wl_nil (qk_thn ?_))⟩
  exact wc_ret (qk_ret1 rfl rfl ⟨d', rfl, ho, hg⟩)
end
end Go.Proofs.Ytaoecdeljfdmeaa
