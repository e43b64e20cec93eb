import Derived.Test.Qxb6003660aBase
import Derived.Test.Qxb6003660aBits
namespace Go.Proofs.Qxb6003660a
open Plain

theorem shr128 (j : Nat) (hj : j < 8) : (128 : Int) / 2 ^ j = ((2 ^ (7 - j) : Nat) : Int) := by
  have : j = 0 ∨ j = 1 ∨ j = 2 ∨ j = 3 ∨ j = 4 ∨ j = 5 ∨ j = 6 ∨ j = 7 := by omega
  rcases this with rfl | rfl | rfl | rfl | rfl | rfl | rfl | rfl <;> decide

theorem pow_lt8 (j : Nat) (hj : j < 8) : 2 ^ (7 - j) < 256 := by
  have : j = 0 ∨ j = 1 ∨ j = 2 ∨ j = 3 ∨ j = 4 ∨ j = 5 ∨ j = 6 ∨ j = 7 := by omega
  rcases this with rfl | rfl | rfl | rfl | rfl | rfl | rfl | rfl <;> decide

theorem and_pow (o i : Nat) : (o &&& 2 ^ i) = if o.testBit i then 2 ^ i else 0 := by
  apply Nat.eq_of_testBit_eq
  intro k
  rw [Nat.testBit_and, Nat.testBit_two_pow]
  by_cases h : i = k
  · subst h
    cases o.testBit i <;> simp
  · cases o.testBit i <;> simp [h]

theorem bit_test (o j : Nat) (ho : o < 256) (hj : j < 8) : (bits .and .u8 (o : Int) (128 / 2 ^ j) != 0) = o.testBit (7 - j) := by
  rw [shr128 j hj, u8_and_nat o _ ho (pow_lt8 j hj), and_pow]
  have hp : 0 < 2 ^ (7 - j) := Nat.two_pow_pos _
  cases h : o.testBit (7 - j)
  · simp
  · rw [if_pos rfl, bne_iff_ne]; omega

theorem or_join (W s : Nat) (x : Int) (hx : x = (s : Int)) (hW : W < 256) (hs : s < 256) : IntKind.u16.wrap (bits .or .i64 ((W : Int) * 256) x) = ((W * 256 + s : Nat) : Int) := by
  subst hx
  have h := bits_nat .i64 32 (by decide) (fun n h0 h1 => by rw [IntKind.wrap_i64]; omega) (W * 256) s (by omega) (by omega)
  have e : (W * 256) ||| s = W * 256 + s := by
    have := Nat.two_pow_add_eq_or_of_lt (i := 8) (b := s) (by omega) W
    rw [Nat.mul_comm W 256]
    exact this.symm
  have h2 := h.2
  rw [e] at h2
  rw [show ((W : Int) * 256) = ((W * 256 : Nat) : Int) by omega, h2, IntKind.wrap_u16]
  omega

end Go.Proofs.Qxb6003660a
