/- The plain mathematics: the longest ASCII prefix of a string. No walk here. -/
import Derived.Lib.EndianBits
import Derived.Laws.Strings
import Derived.WideShapes
namespace Go.Proofs.Qxb6626916a.Plain
open Go

/-- the first p bytes are ASCII -/
def Low (s : ByteArray) (p : Nat) : Prop := ∀ j (h : j < s.size), j < p → s[j].toNat < 128
/-- p is the length of the longest ASCII prefix -/
def IsPre (s : ByteArray) (p : Nat) : Prop := p ≤ s.size ∧ Low s p ∧ ∀ h : p < s.size, 128 ≤ s[p].toNat

theorem low_zero (s : ByteArray) : Low s 0 := fun _ _ h => absurd h (Nat.not_lt_zero _)
theorem low_succ {s : ByteArray} {p : Nat} (h : Low s p) (hp : p < s.size) (k : s[p].toNat < 128) : Low s (p + 1) := by
  intro j hj hjp
  by_cases e : j = p
  · subst e; exact k
  · exact h j hj (by omega)
theorem isPre_unique {s : ByteArray} {p q : Nat} (h : IsPre s p) (k : IsPre s q) : p = q := by
  obtain ⟨h1, h2, h3⟩ := h
  obtain ⟨k1, k2, k3⟩ := k
  rcases Nat.lt_trichotomy p q with e | e | e
  · have hp : p < s.size := by omega
    have := h3 hp; have := k2 p hp e; omega
  · exact e
  · have hp : q < s.size := by omega
    have := k3 hp; have := h2 q hp e; omega

theorem app_left (a b : ByteArray) (j : Nat) (h : j < (a ++ b).size) (k : j < a.size) : (a ++ b)[j] = a[j] :=
  ByteArray.getElem_append_left k
theorem app_right (a b : ByteArray) (j : Nat) (h : j < (a ++ b).size) (k : a.size ≤ j) : (a ++ b)[j] = b[j - a.size]'(by rw [ByteArray.size_append] at h; omega) :=
  ByteArray.getElem_append_right k

theorem isPre_full {a b : ByteArray} {p : Nat} (h : Low a a.size) (k : IsPre b p) : IsPre (a ++ b) (a.size + p) := by
  obtain ⟨k1, k2, k3⟩ := k
  refine ⟨by rw [ByteArray.size_append]; omega, ?_, ?_⟩
  · intro j hj hjp
    by_cases e : j < a.size
    · rw [app_left a b j hj e]; exact h j e e
    · rw [app_right a b j hj (by omega)]; exact k2 _ _ (by omega)
  · intro hj
    rw [app_right a b _ hj (by omega)]
    have e : a.size + p - a.size = p := by omega
    have hp : p < b.size := by rw [ByteArray.size_append] at hj; omega
    have := k3 hp
    simpa [e] using this
theorem isPre_part {a b : ByteArray} {p : Nat} (k : IsPre a p) (h : p < a.size) : IsPre (a ++ b) p := by
  obtain ⟨k1, k2, k3⟩ := k
  refine ⟨by rw [ByteArray.size_append]; omega, ?_, ?_⟩
  · intro j hj hjp
    rw [app_left a b j hj (by omega)]; exact k2 _ _ hjp
  · intro hj
    rw [app_left a b _ hj h]; exact k3 h

theorem bit_off {n m i : Nat} (h : n &&& m = 0) (k : m.testBit i = true) : n / 2 ^ i % 2 = 0 := by
  have e : (n &&& m).testBit i = false := by rw [h]; simp
  rw [Nat.testBit_and, k, Bool.and_true, Nat.testBit_eq_decide_div_mod_eq] at e
  have : ¬ (n / 2 ^ i % 2 = 1) := by simpa using e
  omega

theorem top_bits (b0 b1 b2 b3 b4 b5 b6 b7 : Nat) (h0 : b0 < 256) (h1 : b1 < 256) (h2 : b2 < 256) (h3 : b3 < 256) (h4 : b4 < 256) (h5 : b5 < 256) (h6 : b6 < 256) (h7 : b7 < 256)
    (h : bits .and .u64 ((b0 : Int) + (b1 : Int) * 256 + (b2 : Int) * 65536 + (b3 : Int) * 16777216 + (b4 : Int) * 4294967296 + (b5 : Int) * 1099511627776 + (b6 : Int) * 281474976710656 + (b7 : Int) * 72057594037927936) 9259542123273814144 = 0) :
    b0 < 128 ∧ b1 < 128 ∧ b2 < 128 ∧ b3 < 128 ∧ b4 < 128 ∧ b5 < 128 ∧ b6 < 128 ∧ b7 < 128 := by
  have e : (b0 : Int) + (b1 : Int) * 256 + (b2 : Int) * 65536 + (b3 : Int) * 16777216 + (b4 : Int) * 4294967296 + (b5 : Int) * 1099511627776 + (b6 : Int) * 281474976710656 + (b7 : Int) * 72057594037927936
      = ((b0 + b1 * 256 + b2 * 65536 + b3 * 16777216 + b4 * 4294967296 + b5 * 1099511627776 + b6 * 281474976710656 + b7 * 72057594037927936 : Nat) : Int) := by omega
  have em : (9259542123273814144 : Int) = ((9259542123273814144 : Nat) : Int) := rfl
  rw [e, em, (bits_nat .u64 64 (by decide) wraps_u64 _ _ (by omega) (by decide)).1] at h
  have h' : (b0 + b1 * 256 + b2 * 65536 + b3 * 16777216 + b4 * 4294967296 + b5 * 1099511627776 + b6 * 281474976710656 + b7 * 72057594037927936) &&& 9259542123273814144 = 0 := by exact_mod_cast h
  have c0 := bit_off (i := 7) h' (by decide +kernel)
  have c1 := bit_off (i := 15) h' (by decide +kernel)
  have c2 := bit_off (i := 23) h' (by decide +kernel)
  have c3 := bit_off (i := 31) h' (by decide +kernel)
  have c4 := bit_off (i := 39) h' (by decide +kernel)
  have c5 := bit_off (i := 47) h' (by decide +kernel)
  have c6 := bit_off (i := 55) h' (by decide +kernel)
  have c7 := bit_off (i := 63) h' (by decide +kernel)
  clear h h' e em
  refine ⟨?_, ?_, ?_, ?_, ?_, ?_, ?_, ?_⟩ <;> omega

end Go.Proofs.Qxb6626916a.Plain
