/- The bit of a position, in the walk's own spelling. -/
import Derived.Laws.BitsLemmas
import Derived.Laws.BitsAllLaws
import Derived.Laws.Bits64
namespace Go.Proofs.Qxb6602305a
open Go

theorem and63 (i : Int) (h0 : 0 ≤ i) (h1 : i < 9223372036854775808) : bits BinOp.and .i64 i 63 = i % 64 := by
  have h := bits_mask .i64 63 (by decide) (fun n a b => by rw [IntKind.wrap_i64]; omega) 6 (by decide) i h0 (by omega)
  simpa using h

theorem two_pow_lt (r : Int) (h0 : 0 ≤ r) (h1 : r ≤ 63) : (2 : Int) ^ r.toNat < 18446744073709551616 ∧ 0 < (2 : Int) ^ r.toNat := by
  have h2 : r.toNat ≤ 63 := by omega
  have h3 : 2 ^ r.toNat ≤ 2 ^ 63 := Nat.pow_le_pow_right (by decide) h2
  have h4 : 0 < 2 ^ r.toNat := Nat.pow_pos (by decide)
  have e : ((2 : Int) ^ r.toNat) = ((2 ^ r.toNat : Nat) : Int) := by simp
  rw [e]
  have h5 : 2 ^ 63 = 9223372036854775808 := by decide
  omega

theorem bit_eq (r bit : Int) (h0 : 0 ≤ r) (h1 : r ≤ 63) (hb : IntKind.u64.wrap (2 ^ r.toNat) = bit) : bit = ((2 ^ r.toNat : Nat) : Int) ∧ 0 < bit ∧ bit < 18446744073709551616 := by
  obtain ⟨a, b⟩ := two_pow_lt r h0 h1
  have e : ((2 : Int) ^ r.toNat) = ((2 ^ r.toNat : Nat) : Int) := by simp
  rw [IntKind.wrap_u64] at hb
  have : bit = (2 : Int) ^ r.toNat := by omega
  exact ⟨this.trans e, by omega, by omega⟩

theorem or_zero (bit : Int) (h0 : 0 ≤ bit) (h1 : bit < 18446744073709551616) : bits BinOp.or .u64 0 bit = bit := by
  rw [u64_or 0 bit (by omega) (by omega) h0 h1]
  simp
  omega
end Go.Proofs.Qxb6602305a
