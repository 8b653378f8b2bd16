/-
  THE PLAIN LAWS OF THIS SEAT: bits of bytes; no Go function in sight (only the model's own bit operation on an unsigned byte).
-/
import Derived.Laws.BitsAllLaws
namespace Go.Proofs.Qxb6614884a

/-- Bit t of the byte z. -/
def bitB (z : Int) (t : Nat) : Bool := z.toNat.testBit t

/-- Bit k of a row of bytes, the low bit of the first byte first. -/
def bitAt (zs : List Int) (k : Nat) : Bool := bitB (zs.getD (k / 8) 0) (k % 8)

/-- How many of the first k bits are set. -/
def cnt (zs : List Int) : Nat → Nat
  | 0 => 0
  | k + 1 => cnt zs k + (if bitAt zs k then 1 else 0)

/-- How many of the first n bits of a byte are set. -/
def pc (z : Int) : Nat → Nat
  | 0 => 0
  | t + 1 => pc z t + (if bitB z t then 1 else 0)

theorem cnt_succ (zs : List Int) (k : Nat) : cnt zs (k + 1) = cnt zs k + (if bitAt zs k then 1 else 0) := rfl
theorem cnt_le (zs : List Int) (k : Nat) : cnt zs k ≤ k := by
  induction k with
  | zero => exact Nat.le_refl 0
  | succ k ih => rw [cnt_succ]; split <;> omega
theorem cnt_mono (zs : List Int) (o i : Nat) : cnt zs o ≤ cnt zs (o + i) := by
  induction i with
  | zero => exact Nat.le_refl _
  | succ i ih => rw [← Nat.add_assoc, cnt_succ]; omega
theorem cnt_byte_le (zs : List Int) (k t : Nat) (ht : t ≤ 8) : cnt zs (8 * k + t) = cnt zs (8 * k) + pc (zs.getD k 0) t := by
  induction t with
  | zero => rfl
  | succ t ih =>
    rw [← Nat.add_assoc, cnt_succ, ih (by omega)]
    have e1 : (8 * k + t) / 8 = k := by omega
    have e2 : (8 * k + t) % 8 = t := by omega
    simp only [bitAt, e1, e2, pc]
    omega
theorem cnt_byte (zs : List Int) (k : Nat) : cnt zs (8 * (k + 1)) = cnt zs (8 * k) + pc (zs.getD k 0) 8 := cnt_byte_le zs k 8 (Nat.le_refl _)

theorem pc_le (z : Int) (t : Nat) : pc z t ≤ t := by
  induction t with
  | zero => exact Nat.le_refl 0
  | succ t ih => simp only [pc]; split <;> omega

/-! ### THE BYTE's BITS, BY THE KERNEL: 256 bytes, 8 places -/
theorem fin_and : ∀ z : Fin 256, ∀ t : Fin 8, (bits .and .u8 (z.val : Int) (2 ^ t.val % 256) != 0) = bitB (z.val : Int) t.val := by decide +kernel
theorem fin_low : ∀ z : Fin 256, z.val ≠ 0 → (0 ≤ bits .and .u8 (z.val : Int) ((z.val : Int) - 1) ∧ bits .and .u8 (z.val : Int) ((z.val : Int) - 1) < z.val ∧ pc (bits .and .u8 (z.val : Int) ((z.val : Int) - 1)) 8 + 1 = pc (z.val : Int) 8) := by decide +kernel
theorem fin_or : ∀ z : Fin 256, ∀ t : Fin 8, 0 ≤ bits .or .u8 (z.val : Int) (2 ^ t.val % 256) ∧ bits .or .u8 (z.val : Int) (2 ^ t.val % 256) ≤ 255 ∧ ∀ u : Fin 8, bitB (bits .or .u8 (z.val : Int) (2 ^ t.val % 256)) u.val = (decide (u = t) || bitB (z.val : Int) u.val) := by decide +kernel
theorem fin_clr : ∀ z : Fin 256, ∀ t : Fin 8, 0 ≤ bits .andNot .u8 (z.val : Int) (2 ^ t.val % 256) ∧ bits .andNot .u8 (z.val : Int) (2 ^ t.val % 256) ≤ 255 ∧ ∀ u : Fin 8, bitB (bits .andNot .u8 (z.val : Int) (2 ^ t.val % 256)) u.val = (!decide (u = t) && bitB (z.val : Int) u.val) := by decide +kernel

theorem and_bit (z : Int) (t : Nat) (h0 : 0 ≤ z) (h1 : z ≤ 255) (ht : t < 8) : (bits .and .u8 z (2 ^ t % 256) != 0) = bitB z t := by
  obtain ⟨a, rfl⟩ := Int.eq_ofNat_of_zero_le h0
  exact fin_and ⟨a, by omega⟩ ⟨t, ht⟩
theorem low_bit (z : Int) (h0 : 0 ≤ z) (h1 : z ≤ 255) (hz : z ≠ 0) : 0 ≤ bits .and .u8 z (z - 1) ∧ bits .and .u8 z (z - 1) < z ∧ pc (bits .and .u8 z (z - 1)) 8 + 1 = pc z 8 := by
  obtain ⟨a, rfl⟩ := Int.eq_ofNat_of_zero_le h0
  exact fin_low ⟨a, by omega⟩ (by simp; omega)
theorem or_bit (z : Int) (t : Nat) (h0 : 0 ≤ z) (h1 : z ≤ 255) (ht : t < 8) : 0 ≤ bits .or .u8 z (2 ^ t % 256) ∧ bits .or .u8 z (2 ^ t % 256) ≤ 255 ∧ ∀ u, u < 8 → bitB (bits .or .u8 z (2 ^ t % 256)) u = (decide (u = t) || bitB z u) := by
  obtain ⟨a, rfl⟩ := Int.eq_ofNat_of_zero_le h0
  have h := fin_or ⟨a, by omega⟩ ⟨t, ht⟩
  refine ⟨h.1, h.2.1, fun u hu => ?_⟩
  have := h.2.2 ⟨u, hu⟩
  simpa using this
theorem clr_bit (z : Int) (t : Nat) (h0 : 0 ≤ z) (h1 : z ≤ 255) (ht : t < 8) : 0 ≤ bits .andNot .u8 z (2 ^ t % 256) ∧ bits .andNot .u8 z (2 ^ t % 256) ≤ 255 ∧ ∀ u, u < 8 → bitB (bits .andNot .u8 z (2 ^ t % 256)) u = (!decide (u = t) && bitB z u) := by
  obtain ⟨a, rfl⟩ := Int.eq_ofNat_of_zero_le h0
  have h := fin_clr ⟨a, by omega⟩ ⟨t, ht⟩
  refine ⟨h.1, h.2.1, fun u hu => ?_⟩
  have := h.2.2 ⟨u, hu⟩
  simpa using this
theorem pc_zero : pc 0 8 = 0 := by decide +kernel
end Go.Proofs.Qxb6614884a
