/- Numbers in groups of seven bits: what the program's masks and shifts come to. -/
import Derived.Test.YtaoecdeljfdmeaaBytes2
namespace Go.Proofs.Ytaoecdeljfdmeaa
open Go Go.RowKit

theorem wraps_u32 (n : Int) (h₀ : 0 ≤ n) (h₁ : n < 2 ^ 32) : IntKind.u32.wrap n = n := by rw [IntKind.wrap_u32]; omega
theorem and127 (m : Nat) (h : m < 4294967296) : bits .and .u32 (m : Int) 127 = ((m % 128 : Nat) : Int) := by
  have := bits_mask .u32 32 (by decide) wraps_u32 7 (by decide) (m : Int) (by omega) (by omega)
  rw [show (127 : Int) = 2 ^ 7 - 1 from rfl, this]; omega
theorem or128 (m : Nat) (h : m < 128) : bits .or .u32 (m : Int) 128 = ((m + 128 : Nat) : Int) := by
  have h2 := (bits_nat .u32 32 (by decide) wraps_u32 m 128 (by omega) (by omega)).2
  rw [show (128 : Int) = ((128 : Nat) : Int) from rfl, h2]
  have h3 := Nat.two_pow_add_eq_or_of_lt (show m < 2 ^ 7 from h) 1
  rw [Nat.or_comm]
  rw [show (2 ^ 7 * 1 : Nat) = 128 from rfl] at h3
  rw [← h3, Nat.add_comm]
theorem wraps_u64 (n : Int) (h₀ : 0 ≤ n) (h₁ : n < 2 ^ 64) : IntKind.u64.wrap n = n := by rw [IntKind.wrap_u64]; omega
theorem and127w (m : Nat) (h : m < 18446744073709551616) : bits .and .u64 (m : Int) 127 = ((m % 128 : Nat) : Int) := by
  have := bits_mask .u64 64 (by decide) wraps_u64 7 (by decide) (m : Int) (by omega) (by omega)
  rw [show (127 : Int) = 2 ^ 7 - 1 from rfl, this]; omega
theorem or128b (m : Nat) (h : m < 128) : bits .or .u8 (m : Int) 128 = ((m + 128 : Nat) : Int) := by
  have h2 := (bits_nat .u8 8 (by decide) wraps_u8 m 128 (by omega) (by omega)).2
  rw [show (128 : Int) = ((128 : Nat) : Int) from rfl, h2]
  have h3 := Nat.two_pow_add_eq_or_of_lt (show m < 2 ^ 7 from h) 1
  rw [Nat.or_comm]
  rw [show (2 ^ 7 * 1 : Nat) = 128 from rfl] at h3
  rw [← h3, Nat.add_comm]
theorem byteNat (n : Nat) (h : n < 256) : ((UInt8.ofNat n).toNat : Int) = n := by rw [UInt8.toNat_ofNat']; omega
theorem shr_nat (u s k : Nat) (hs : s ≤ k) : ((u : Int).fdiv (2 ^ (min ((s : Int)).toNat k))) = ((u / 2 ^ s : Nat) : Int) := by
  have : min ((s : Int)).toNat k = s := by simp; omega
  rw [this, Int.fdiv_eq_ediv_of_nonneg _ (by exact_mod_cast Nat.zero_le _)]
  push_cast; rfl
theorem cellByte (n : Nat) : Value.int .u8 (IntKind.u8.wrap (n : Int)) = .int .u8 ((UInt8.ofNat n).toNat : Int) := by
  rw [IntKind.wrap_u8, UInt8.toNat_ofNat']
  simp
/-- A group that others follow. -/
theorem grp (u s : Nat) (hu : u < 4294967296) (hs : s ≤ 32) :
    Value.int .u8 (IntKind.u8.wrap (bits .or .u32 (bits .and .u32 ((u : Int).fdiv (2 ^ (min ((s : Int)).toNat 32))) 127) 128)) = .int .u8 ((UInt8.ofNat (u / 2 ^ s % 128 + 128)).toNat : Int) := by
  rw [shr_nat u s 32 hs, and127 _ (Nat.lt_of_le_of_lt (Nat.div_le_self _ _) hu), or128 _ (Nat.mod_lt _ (by omega)), cellByte]
theorem grp0 (u : Nat) (hu : u < 4294967296) :
    Value.int .u8 (IntKind.u8.wrap (bits .or .u32 (bits .and .u32 (u : Int) 127) 128)) = .int .u8 ((UInt8.ofNat (u % 128 + 128)).toNat : Int) := by
  rw [and127 _ hu, or128 _ (Nat.mod_lt _ (by omega)), cellByte]
/-- The last group. -/
theorem grpLast (u s : Nat) (hs : s ≤ 32) : Value.int .u8 (IntKind.u8.wrap ((u : Int).fdiv (2 ^ (min ((s : Int)).toNat 32)))) = .int .u8 ((UInt8.ofNat (u / 2 ^ s)).toNat : Int) := by
  rw [shr_nat u s 32 hs, cellByte]

theorem uvar_lt {n : Nat} (h : n < 128) : uvar n = [UInt8.ofNat n] := by rw [uvar, if_pos h]
theorem uvar_ge {n : Nat} (h : 128 ≤ n) : uvar n = UInt8.ofNat (n % 128 + 128) :: uvar (n / 128) := by rw [uvar, if_neg (by omega)]
theorem uvar2 {u : Nat} (h1 : 128 ≤ u) (h2 : u < 16384) : uvar u = [UInt8.ofNat (u % 128 + 128), UInt8.ofNat (u / 2 ^ 7)] := by
  rw [uvar_ge h1, uvar_lt (by omega)]
theorem uvar3 {u : Nat} (h1 : 16384 ≤ u) (h2 : u < 2097152) : uvar u = [UInt8.ofNat (u % 128 + 128), UInt8.ofNat (u / 2 ^ 7 % 128 + 128), UInt8.ofNat (u / 2 ^ 14)] := by
  rw [uvar_ge (by omega), uvar_ge (by omega), uvar_lt (by omega), Nat.div_div_eq_div_mul]
theorem uvar4 {u : Nat} (h1 : 2097152 ≤ u) (h2 : u < 268435456) : uvar u = [UInt8.ofNat (u % 128 + 128), UInt8.ofNat (u / 2 ^ 7 % 128 + 128), UInt8.ofNat (u / 2 ^ 14 % 128 + 128), UInt8.ofNat (u / 2 ^ 21)] := by
  rw [uvar_ge (by omega), uvar_ge (by omega), uvar_ge (by omega), uvar_lt (by omega)]
  simp only [Nat.div_div_eq_div_mul]
theorem uvar5 {u : Nat} (h1 : 268435456 ≤ u) (h2 : u < 4294967296) : uvar u = [UInt8.ofNat (u % 128 + 128), UInt8.ofNat (u / 2 ^ 7 % 128 + 128), UInt8.ofNat (u / 2 ^ 14 % 128 + 128), UInt8.ofNat (u / 2 ^ 21 % 128 + 128), UInt8.ofNat (u / 2 ^ 28)] := by
  rw [uvar_ge (by omega), uvar_ge (by omega), uvar_ge (by omega), uvar_ge (by omega), uvar_lt (by omega)]
  simp only [Nat.div_div_eq_div_mul]

section
variable {P : Program} {ops : Array Oper} {Q : Exit → Act → World → Prop} {N : Nat} {rest : List Oper} {L : Sl} {w : World} {d : Nat} {ty : TypeId} {pos : String} {aft : Array Edge}
theorem wl_and {x y : Operand} {t u : TypeId} {kk : IntKind} {m n r : Int} (hx : ev L x = some (.int kk m)) (hy : ev L y = some (.int kk n)) (hd : Nat.blt d N = true) (hr : bits .and kk m n = r) (h : WL rest P ops Q N ((d, .int kk r) :: L) w) :
    WL (⟨some d, .binOp .and t x y u, ty, pos, aft, none⟩ :: rest) P ops Q N L w :=
  wl_bits hx hy hd (.inl rfl) (fun w => by rw [intBits_and, hr]; rfl) h
theorem wl_or {x y : Operand} {t u : TypeId} {kk : IntKind} {m n r : Int} (hx : ev L x = some (.int kk m)) (hy : ev L y = some (.int kk n)) (hd : Nat.blt d N = true) (hr : bits .or kk m n = r) (h : WL rest P ops Q N ((d, .int kk r) :: L) w) :
    WL (⟨some d, .binOp .or t x y u, ty, pos, aft, none⟩ :: rest) P ops Q N L w :=
  wl_bits hx hy hd (.inr rfl) (fun w => by rw [intBits_or, hr]; rfl) h
end
section
variable {P : Program} {Q : Exit → Act → World → Prop} {N : Nat} {L : Sl} {w : World}
theorem wc_yes {c : Operand} {x y : Code} {t : Bool} (hc : ev L c = some (.bool t)) (ht : t = true) (hx : WC x P Q N L w) : WC (.cond c x y) P Q N L w :=
  wc_cond hc (fun _ => hx) (fun e => by rw [ht] at e; cases e)
theorem wc_no {c : Operand} {x y : Code} {t : Bool} (hc : ev L c = some (.bool t)) (ht : t = false) (hy : WC y P Q N L w) : WC (.cond c x y) P Q N L w :=
  wc_cond hc (fun e => by rw [ht] at e; cases e) (fun _ => hy)
end
end Go.Proofs.Ytaoecdeljfdmeaa
