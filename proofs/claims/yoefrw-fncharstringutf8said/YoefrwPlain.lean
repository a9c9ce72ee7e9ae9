/-
  Plain arithmetic for the two laws on Char.String: the bytes of the model's own encoder at each of its seven ranges, and the bit operations that the Go text does on them. No walk in this text.
-/
import Derived.Laws.BitsLemmas
import GoSem.Core.Utf8
namespace Go.Proofs.Yoefrw.Plain

/-- The byte of an integer. -/
def by8 (x : Int) : UInt8 := UInt8.ofNat x.toNat
theorem by8_nat (x : Int) (h0 : 0 ≤ x) (h1 : x < 256) : ((by8 x).toNat : Int) = x := by
  simp [by8]; omega

theorem enc_one (r : Int) (h0 : 0 ≤ r) (h1 : r ≤ 127) : Utf8.encode r = ⟨#[by8 r]⟩ := by
  have v : Utf8.valid r = true := by simp [Utf8.valid]; omega
  have c : r.toNat < 128 := by omega
  simp [Utf8.encode, v, c, by8]
theorem enc_two (r : Int) (h0 : 128 ≤ r) (h1 : r ≤ 2047) : Utf8.encode r = ⟨#[by8 (192 + r / 64), by8 (128 + r % 64)]⟩ := by
  have v : Utf8.valid r = true := by simp [Utf8.valid]; omega
  have c1 : ¬ r.toNat < 128 := by omega
  have c2 : r.toNat < 2048 := by omega
  have e0 : 192 + r.toNat / 64 = (192 + r / 64).toNat := by omega
  have e1 : 128 + r.toNat % 64 = (128 + r % 64).toNat := by omega
  simp [Utf8.encode, v, c1, c2, by8, e0, e1]
theorem enc_three (r : Int) (h0 : 2048 ≤ r) (h1 : r ≤ 65535) (h : r < 55296 ∨ 57343 < r) :
    Utf8.encode r = ⟨#[by8 (224 + r / 4096), by8 (128 + r / 64 % 64), by8 (128 + r % 64)]⟩ := by
  have v : Utf8.valid r = true := by simp [Utf8.valid]; omega
  have c1 : ¬ r.toNat < 128 := by omega
  have c2 : ¬ r.toNat < 2048 := by omega
  have c3 : r.toNat < 65536 := by omega
  have e0 : 224 + r.toNat / 4096 = (224 + r / 4096).toNat := by omega
  have e1 : 128 + r.toNat / 64 % 64 = (128 + r / 64 % 64).toNat := by omega
  have e2 : 128 + r.toNat % 64 = (128 + r % 64).toNat := by omega
  simp [Utf8.encode, v, c1, c2, c3, by8, e0, e1, e2]
theorem enc_four (r : Int) (h0 : 65536 ≤ r) (h1 : r ≤ 1114111) :
    Utf8.encode r = ⟨#[by8 (240 + r / 262144), by8 (128 + r / 4096 % 64), by8 (128 + r / 64 % 64), by8 (128 + r % 64)]⟩ := by
  have v : Utf8.valid r = true := by simp [Utf8.valid]; omega
  have c1 : ¬ r.toNat < 128 := by omega
  have c2 : ¬ r.toNat < 2048 := by omega
  have c3 : ¬ r.toNat < 65536 := by omega
  have e0 : 240 + r.toNat / 262144 = (240 + r / 262144).toNat := by omega
  have e1 : 128 + r.toNat / 4096 % 64 = (128 + r / 4096 % 64).toNat := by omega
  have e2 : 128 + r.toNat / 64 % 64 = (128 + r / 64 % 64).toNat := by omega
  have e3 : 128 + r.toNat % 64 = (128 + r % 64).toNat := by omega
  simp [Utf8.encode, v, c1, c2, c3, by8, e0, e1, e2, e3]
theorem enc_bad (r : Int) (h : r < 0 ∨ (55296 ≤ r ∧ r ≤ 57343) ∨ 1114111 < r) : Utf8.encode r = ⟨#[by8 239, by8 191, by8 189]⟩ := by
  have v : Utf8.valid r = false := by simp [Utf8.valid]; omega
  simp [Utf8.encode, v, Utf8.runeError, by8]

/-- A byte's upper bits alone: 'x & (256 - 2^i)' is x less its lower i bits. -/
theorem and_high : ∀ x : Fin 256, bits .and .u8 (x.val : Int) 192 = (x.val : Int) / 64 * 64 ∧ bits .and .u8 (x.val : Int) 224 = (x.val : Int) / 32 * 32 ∧ bits .and .u8 (x.val : Int) 240 = (x.val : Int) / 16 * 16 ∧ bits .and .u8 (x.val : Int) 248 = (x.val : Int) / 8 * 8 := by
  decide +kernel
theorem and_high_int (x : Int) (h0 : 0 ≤ x) (h1 : x < 256) : bits .and .u8 x 192 = x / 64 * 64 ∧ bits .and .u8 x 224 = x / 32 * 32 ∧ bits .and .u8 x 240 = x / 16 * 16 ∧ bits .and .u8 x 248 = x / 8 * 8 := by
  have h := and_high ⟨x.toNat, by omega⟩
  have e : ((x.toNat : Nat) : Int) = x := by omega
  simp only [e] at h
  exact h
theorem and192 (y : Int) (h0 : 0 ≤ y) (h1 : y < 64) : bits .and .u8 (128 + y) 192 = 128 := by
  rw [(and_high_int (128 + y) (by omega) (by omega)).1]; omega
theorem and224 (y : Int) (h0 : 0 ≤ y) (h1 : y < 32) : bits .and .u8 (192 + y) 224 = 192 := by
  rw [(and_high_int (192 + y) (by omega) (by omega)).2.1]; omega
theorem and240 (y : Int) (h0 : 0 ≤ y) (h1 : y < 16) : bits .and .u8 (224 + y) 240 = 224 := by
  rw [(and_high_int (224 + y) (by omega) (by omega)).2.2.1]; omega
theorem and248 (y : Int) (h0 : 0 ≤ y) (h1 : y < 8) : bits .and .u8 (240 + y) 248 = 240 := by
  rw [(and_high_int (240 + y) (by omega) (by omega)).2.2.2]; omega
theorem and63 (y : Int) (h0 : 0 ≤ y) (h1 : y < 64) : bits .and .u8 (128 + y) 63 = y := by
  rw [u8_and63 _ (by omega) (by omega)]; omega
theorem and31 (y : Int) (h0 : 0 ≤ y) (h1 : y < 32) : bits .and .u8 (192 + y) 31 = y := by
  rw [u8_and31 _ (by omega) (by omega)]; omega
theorem and15 (y : Int) (h0 : 0 ≤ y) (h1 : y < 16) : bits .and .u8 (224 + y) 15 = y := by
  rw [u8_and15 _ (by omega) (by omega)]; omega
theorem and7 (y : Int) (h0 : 0 ≤ y) (h1 : y < 8) : bits .and .u8 (240 + y) 7 = y := by
  rw [u8_and7 _ (by omega) (by omega)]; omega
end Go.Proofs.Yoefrw.Plain
