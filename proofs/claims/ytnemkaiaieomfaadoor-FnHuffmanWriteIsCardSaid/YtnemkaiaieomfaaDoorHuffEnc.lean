/-
  PLAIN: the encoder's buffer of bits, as a number: what a step makes of it, and which bytes it hands on.
-/
import Derived.Test.YtnemkaiaieomfaaDoorHuff
namespace Go.Proofs.YtnemkaiaieomfaaDoor.HP

/-- A step of the encoder's buffer: shifted left, a code put in. -/
def stepX (X L C : Nat) : Nat := 2 ^ L * (X % 2 ^ (64 - L)) + C

theorem stepX_lt {X L C : Nat} (hL : L ≤ 64) (hC : C < 2 ^ L) : stepX X L C < 2 ^ 64 := by
  unfold stepX
  have h1 : X % 2 ^ (64 - L) + 1 ≤ 2 ^ (64 - L) := Nat.mod_lt _ (Nat.two_pow_pos _)
  have h2 : 2 ^ L * (X % 2 ^ (64 - L) + 1) ≤ 2 ^ L * 2 ^ (64 - L) := Nat.mul_le_mul_left _ h1
  rw [← Nat.pow_add, Nat.mul_add, Nat.mul_one] at h2
  have e : L + (64 - L) = 64 := by omega
  rw [e] at h2
  omega

theorem stepX_or {X L C : Nat} (hL : L ≤ 64) (hC : C < 2 ^ L) : (X * 2 ^ L % 2 ^ 64) ||| C = stepX X L C := by
  have e : (64 : Nat) = L + (64 - L) := by omega
  have h : X * 2 ^ L % 2 ^ 64 = 2 ^ L * (X % 2 ^ (64 - L)) := by
    conv => lhs; rw [e, Nat.pow_add, Nat.mul_comm X]
    exact Nat.mul_mod_mul_left _ _ _
  rw [h, stepX, Nat.two_pow_add_eq_or_of_lt hC]

theorem stepX_bits {X m L C : Nat} {r : List Bool} (hr : r.length = m) (hX : X % 2 ^ m = ofBits r) (hC : C < 2 ^ L) (h : m + L ≤ 64) :
    stepX X L C % 2 ^ (m + L) = ofBits (r ++ bitsOf L C) := by
  rw [ofBits_append, length_bitsOf, ofBits_bitsOf, Nat.mod_eq_of_lt hC, ← hX]
  have h1 : X % 2 ^ (64 - L) % 2 ^ m = X % 2 ^ m := Nat.mod_mod_of_dvd _ (Nat.pow_dvd_pow 2 (by omega))
  unfold stepX
  generalize X % 2 ^ (64 - L) = Z at *
  have hd := Nat.div_add_mod Z (2 ^ m)
  have hlt : Z % 2 ^ m < 2 ^ m := Nat.mod_lt _ (Nat.two_pow_pos _)
  have e1 : 2 ^ L * Z + C = 2 ^ (m + L) * (Z / 2 ^ m) + (2 ^ L * (Z % 2 ^ m) + C) := by
    conv => lhs; rw [← hd]
    rw [Nat.mul_add, Nat.pow_add, Nat.mul_comm (2 ^ m) (2 ^ L), Nat.mul_assoc (2 ^ L)]
    omega
  rw [e1, Nat.mul_add_mod, h1, Nat.mul_comm (2 ^ L), Nat.mod_eq_of_lt]
  rw [← h1]
  have h2 : (Z % 2 ^ m + 1) * 2 ^ L ≤ 2 ^ m * 2 ^ L := Nat.mul_le_mul_right _ hlt
  rw [Nat.add_mul, Nat.one_mul, ← Nat.pow_add] at h2
  omega

/-- The bits that stand above the lowest j of them. -/
theorem top_bits {X m j : Nat} {r : List Bool} (hr : r.length = m + j) (hX : X % 2 ^ (m + j) = ofBits r) :
    X / 2 ^ j % 2 ^ m = ofBits (r.take m) ∧ X % 2 ^ j = ofBits (r.drop m) := by
  have hs : ofBits r = ofBits (r.take m) * 2 ^ j + ofBits (r.drop m) := by
    conv => lhs; rw [← List.take_append_drop m r]
    rw [ofBits_append]
    have : (r.drop m).length = j := by simp; omega
    rw [this]
  have hlt : ofBits (r.drop m) < 2 ^ j := by
    have := ofBits_lt (r.drop m)
    have e : (r.drop m).length = j := by simp; omega
    rwa [e] at this
  have hpos : 0 < 2 ^ j := Nat.two_pow_pos _
  have h1 : X / 2 ^ j % 2 ^ m = X % 2 ^ (m + j) / 2 ^ j := by
    rw [Nat.pow_add, Nat.mul_comm (2 ^ m), Nat.mod_mul_right_div_self]
  have h2 : X % 2 ^ j = X % 2 ^ (m + j) % 2 ^ j := by
    rw [Nat.mod_mod_of_dvd]; rw [Nat.pow_add]; exact Nat.dvd_mul_left _ _
  rw [h1, h2, hX, hs]
  constructor
  · rw [Nat.mul_comm, Nat.mul_add_div hpos, Nat.div_eq_of_lt hlt, Nat.add_zero]
  · rw [Nat.mul_comm, Nat.mul_add_mod, Nat.mod_eq_of_lt hlt]

theorem pack_nil : pack [] = [] := rfl

theorem pack8 {l : List Bool} (h : l.length = 8) : pack l = [UInt8.ofNat (ofBits l)] := by
  have := pack_append8 h []
  simpa [pack_nil] using this

theorem pack_split {l : List Bool} {m : Nat} (h : l.length = 8 + m) : ∃ a b, pack l = UInt8.ofNat a :: pack b ∧ b.length = m ∧ ofBits l = a * 2 ^ m + ofBits b ∧ a < 256 := by
  refine ⟨ofBits (l.take 8), l.drop 8, ?_, by simp; omega, ?_, ?_⟩
  · conv => lhs; rw [← List.take_append_drop 8 l]
    rw [pack_append8 (by simp; omega)]
  · conv => lhs; rw [← List.take_append_drop 8 l]
    rw [ofBits_append]
    have : (l.drop 8).length = m := by simp; omega
    rw [this]
  · have := ofBits_lt (l.take 8)
    have e : (l.take 8).length = 8 := by simp; omega
    rwa [e] at this

theorem pack16 {l : List Bool} (h : l.length = 16) : pack l = [UInt8.ofNat (ofBits l / 256), UInt8.ofNat (ofBits l % 256)] := by
  obtain ⟨a, b, h1, h2, h3, h4⟩ := pack_split (m := 8) h
  have hb := ofBits_lt b
  rw [h2] at hb
  rw [h1, pack8 h2, h3]
  have e1 : (a * 2 ^ 8 + ofBits b) / 256 = a := by omega
  have e2 : (a * 2 ^ 8 + ofBits b) % 256 = ofBits b := by omega
  rw [e1, e2]

theorem pack24 {l : List Bool} (h : l.length = 24) : pack l = [UInt8.ofNat (ofBits l / 65536), UInt8.ofNat (ofBits l / 256 % 256), UInt8.ofNat (ofBits l % 256)] := by
  obtain ⟨a, b, h1, h2, h3, h4⟩ := pack_split (m := 16) h
  have hb := ofBits_lt b
  rw [h2] at hb
  rw [h1, pack16 h2, h3]
  have e1 : (a * 2 ^ 16 + ofBits b) / 65536 = a := by omega
  have e2 : (a * 2 ^ 16 + ofBits b) / 256 % 256 = ofBits b / 256 := by omega
  have e3 : (a * 2 ^ 16 + ofBits b) % 256 = ofBits b % 256 := by omega
  rw [e1, e2, e3]

theorem pack32 {l : List Bool} (h : l.length = 32) : pack l = [UInt8.ofNat (ofBits l / 16777216), UInt8.ofNat (ofBits l / 65536 % 256), UInt8.ofNat (ofBits l / 256 % 256), UInt8.ofNat (ofBits l % 256)] := by
  obtain ⟨a, b, h1, h2, h3, h4⟩ := pack_split (m := 24) h
  have hb := ofBits_lt b
  rw [h2] at hb
  rw [h1, pack24 h2, h3]
  have e1 : (a * 2 ^ 24 + ofBits b) / 16777216 = a := by omega
  have e2 : (a * 2 ^ 24 + ofBits b) / 65536 % 256 = ofBits b / 65536 := by omega
  have e3 : (a * 2 ^ 24 + ofBits b) / 256 % 256 = ofBits b / 256 % 256 := by omega
  have e4 : (a * 2 ^ 24 + ofBits b) % 256 = ofBits b % 256 := by omega
  rw [e1, e2, e3, e4]

/-- Ones. -/
theorem bitsOf_ones (n : Nat) : bitsOf n (2 ^ n - 1) = List.replicate n true := by
  induction n with
  | zero => rfl
  | succ n ih =>
    rw [bitsOf]
    have hpos : 0 < 2 ^ n := Nat.two_pow_pos _
    have e1 : (2 ^ (n + 1) - 1) / 2 = 2 ^ n - 1 := by rw [Nat.pow_succ]; omega
    have e2 : (2 ^ (n + 1) - 1) % 2 = 1 := by rw [Nat.pow_succ]; omega
    rw [e1, e2, ih, List.replicate_succ']
    rfl

end Go.Proofs.YtnemkaiaieomfaaDoor.HP
