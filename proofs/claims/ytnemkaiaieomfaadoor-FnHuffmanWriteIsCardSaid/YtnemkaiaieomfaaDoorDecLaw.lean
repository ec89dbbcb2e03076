/-
  PLAIN: how the decoder's number of pending bits goes with the bits themselves.
-/
import Derived.Test.YtnemkaiaieomfaaDoorHuffLaw
import Derived.Test.YtnemkaiaieomfaaDoorHuffEnc
namespace Go.Proofs.YtnemkaiaieomfaaDoor.HP

theorem split_bits {q : List Bool} (cl : Nat) {m : Nat} (hq : q.length = m + cl) : ofBits q = ofBits (q.take cl) * 2 ^ m + ofBits (q.drop cl) := by
  have e : ofBits (q.take cl ++ q.drop cl) = ofBits (q.take cl) * 2 ^ (q.drop cl).length + ofBits (q.drop cl) := ofBits_append _ _
  rw [List.take_append_drop, List.length_drop, hq, Nat.add_sub_cancel] at e
  exact e

theorem low_bits {C m cl : Nat} {q : List Bool} (hq : q.length = m + cl) (hC : C % 2 ^ (m + cl) = ofBits q) : C % 2 ^ m = ofBits (q.drop cl) := by
  have h1 := split_bits cl hq
  have h2 : ofBits (q.drop cl) < 2 ^ m := by
    have := ofBits_lt (q.drop cl)
    rw [List.length_drop, hq, Nat.add_sub_cancel] at this
    exact this
  have h3 : C % 2 ^ m = C % 2 ^ (m + cl) % 2 ^ m := by
    rw [Nat.mod_mod_of_dvd _ (Nat.pow_dvd_pow 2 (Nat.le_add_right m cl))]
  rw [h3, hC, h1, Nat.mul_comm, Nat.mul_add_mod, Nat.mod_eq_of_lt h2]

theorem top8 {C m : Nat} {q : List Bool} (hq : q.length = m + 8) (hC : C % 2 ^ (m + 8) = ofBits q) : C / 2 ^ m % 256 = ofBits (q.take 8) := by
  have h1 := split_bits 8 hq
  have h2 : ofBits (q.drop 8) < 2 ^ m := by
    have := ofBits_lt (q.drop 8)
    rw [List.length_drop, hq, Nat.add_sub_cancel] at this
    exact this
  have h3 : C / 2 ^ m % 256 = C % 2 ^ (m + 8) / 2 ^ m := by
    rw [Nat.pow_add, Nat.mod_mul_right_div_self]
  rw [h3, hC, h1, Nat.mul_comm, Nat.mul_add_div (Nat.two_pow_pos m), Nat.div_eq_of_lt h2, Nat.add_zero]

theorem ofBits_zeros (j : Nat) : ofBits (List.replicate j false) = 0 := by
  induction j with
  | zero => rfl
  | succ j ih => rw [List.replicate_succ, ofBits_cons, ih]; simp

theorem pad_bits {C m : Nat} {q : List Bool} (_hq : q.length = m) (hm : m ≤ 8) (hC : C % 2 ^ m = ofBits q) : C * 2 ^ (8 - m) % 256 = ofBits (q ++ List.replicate (8 - m) false) := by
  rw [ofBits_append, ofBits_zeros, List.length_replicate, Nat.add_zero, ← hC, ← Nat.mul_mod_mul_right, ← Nat.pow_add, Nat.add_sub_of_le hm]

theorem ones_bits (m : Nat) : ofBits (List.replicate m true) = 2 ^ m - 1 := by
  rw [← bitsOf_ones, ofBits_bitsOf, Nat.mod_eq_of_lt (by have := Nat.two_pow_pos m; omega)]

theorem all_ones {C m : Nat} {q : List Bool} (hq : q.length = m) (hC : C % 2 ^ m = ofBits q) : C % 2 ^ m = 2 ^ m - 1 ↔ q.all id = true := by
  rw [hC, ← ones_bits]
  constructor
  · intro h
    have := ofBits_inj (by rw [hq, List.length_replicate]) h
    rw [this]; simp
  · intro h
    have : q = List.replicate m true := by
      rw [← hq, List.eq_replicate_iff]
      exact ⟨rfl, fun b hb => by simpa using List.all_eq_true.1 h b hb⟩
    rw [← this]

theorem pl_le : ∀ k, k < 15 → pl k ≤ 24 := by decide
theorem leaf_cl {k i s cl : Nat} (h : tab k i = .leaf s cl) : s < 256 ∧ 1 ≤ cl ∧ cl ≤ 8 ∧ (hlen s - 1) % 8 + 1 = cl := by
  obtain ⟨h1, h2, h3, _, h4, _⟩ := leaf_ok h
  have e : pl k = 8 * (pathL.getD k []).length := rfl
  exact ⟨h1, h2, h3, by omega⟩
end Go.Proofs.YtnemkaiaieomfaaDoor.HP
