/-
  PLAIN: the Huffman code of HPACK as lists of bits: its table, the tree that a decoder walks byte by byte, that decoding undoes encoding and encoding undoes decoding. No program in sight.
-/
namespace Go.Proofs.YtnemkaiaieomfaaDoor.HP

/-- The code lengths (RFC 7541, appendix B). -/
def lensL : List Nat := [13, 23, 28, 28, 28, 28, 28, 28, 28, 24, 30, 28, 28, 30, 28, 28, 28, 28, 28, 28, 28, 28, 30, 28, 28, 28, 28, 28, 28, 28, 28, 28, 6, 10, 10, 12, 13, 6, 8, 11, 10, 10, 8, 11, 8, 6, 6, 6, 5, 5, 5, 6, 6, 6, 6, 6, 6, 6, 7, 8, 15, 6, 12, 10, 13, 6, 7, 7, 7, 7, 7, 7, 7, 7, 7, 7, 7, 7, 7, 7, 7, 7, 7, 7, 7, 7, 7, 7, 8, 7, 8, 13, 19, 13, 14, 6, 15, 5, 6, 5, 6, 5, 6, 6, 6, 5, 7, 7, 6, 6, 6, 5, 6, 7, 6, 5, 5, 6, 7, 7, 7, 7, 7, 15, 11, 14, 13, 28, 20, 22, 20, 20, 22, 22, 22, 23, 22, 23, 23, 23, 23, 23, 24, 23, 24, 24, 22, 23, 24, 23, 23, 23, 23, 21, 22, 23, 22, 23, 23, 24, 22, 21, 20, 22, 22, 23, 23, 21, 23, 22, 22, 24, 21, 22, 23, 23, 21, 21, 22, 21, 23, 22, 23, 23, 20, 22, 22, 22, 23, 22, 22, 23, 26, 26, 20, 19, 22, 23, 22, 25, 26, 26, 26, 27, 27, 26, 24, 25, 19, 21, 26, 27, 27, 26, 27, 24, 21, 21, 26, 26, 28, 27, 27, 27, 20, 24, 20, 21, 22, 21, 21, 23, 22, 22, 25, 25, 24, 24, 26, 23, 26, 27, 26, 26, 27, 27, 27, 27, 27, 28, 27, 27, 27, 27, 27, 26]

/-- The codes, as numbers (RFC 7541, appendix B). -/
def codesL : List Nat := [8184, 8388568, 268435426, 268435427, 268435428, 268435429, 268435430, 268435431, 268435432, 16777194, 1073741820, 268435433, 268435434, 1073741821, 268435435, 268435436, 268435437, 268435438, 268435439, 268435440, 268435441, 268435442, 1073741822, 268435443, 268435444, 268435445, 268435446, 268435447, 268435448, 268435449, 268435450, 268435451, 20, 1016, 1017, 4090, 8185, 21, 248, 2042, 1018, 1019, 249, 2043, 250, 22, 23, 24, 0, 1, 2, 25, 26, 27, 28, 29, 30, 31, 92, 251, 32764, 32, 4091, 1020, 8186, 33, 93, 94, 95, 96, 97, 98, 99, 100, 101, 102, 103, 104, 105, 106, 107, 108, 109, 110, 111, 112, 113, 114, 252, 115, 253, 8187, 524272, 8188, 16380, 34, 32765, 3, 35, 4, 36, 5, 37, 38, 39, 6, 116, 117, 40, 41, 42, 7, 43, 118, 44, 8, 9, 45, 119, 120, 121, 122, 123, 32766, 2044, 16381, 8189, 268435452, 1048550, 4194258, 1048551, 1048552, 4194259, 4194260, 4194261, 8388569, 4194262, 8388570, 8388571, 8388572, 8388573, 8388574, 16777195, 8388575, 16777196, 16777197, 4194263, 8388576, 16777198, 8388577, 8388578, 8388579, 8388580, 2097116, 4194264, 8388581, 4194265, 8388582, 8388583, 16777199, 4194266, 2097117, 1048553, 4194267, 4194268, 8388584, 8388585, 2097118, 8388586, 4194269, 4194270, 16777200, 2097119, 4194271, 8388587, 8388588, 2097120, 2097121, 4194272, 2097122, 8388589, 4194273, 8388590, 8388591, 1048554, 4194274, 4194275, 4194276, 8388592, 4194277, 4194278, 8388593, 67108832, 67108833, 1048555, 524273, 4194279, 8388594, 4194280, 33554412, 67108834, 67108835, 67108836, 134217694, 134217695, 67108837, 16777201, 33554413, 524274, 2097123, 67108838, 134217696, 134217697, 67108839, 134217698, 16777202, 2097124, 2097125, 67108840, 67108841, 268435453, 134217699, 134217700, 134217701, 1048556, 16777203, 1048557, 2097126, 4194281, 2097127, 2097128, 8388595, 4194282, 4194283, 33554414, 33554415, 16777204, 16777205, 67108842, 8388596, 67108843, 134217702, 67108844, 67108845, 134217703, 134217704, 134217705, 134217706, 134217707, 268435454, 134217708, 134217709, 134217710, 134217711, 134217712, 67108846]

def hlen (s : Nat) : Nat := lensL.getD s 0
def hcode (s : Nat) : Nat := codesL.getD s 0

/-! ### numbers and bits -/
/-- The n low bits of c, the highest first. -/
def bitsOf : Nat → Nat → List Bool
  | 0, _ => []
  | n + 1, c => bitsOf n (c / 2) ++ [c % 2 == 1]

def ofBits (l : List Bool) : Nat := l.foldl (fun a b => 2 * a + b.toNat) 0

theorem length_bitsOf (n c : Nat) : (bitsOf n c).length = n := by
  induction n generalizing c with
  | zero => rfl
  | succ n ih => simp [bitsOf, ih]

theorem ofBits_append_one (l : List Bool) (b : Bool) : ofBits (l ++ [b]) = 2 * ofBits l + b.toNat := by
  simp [ofBits]

theorem foldl_bits (l : List Bool) (a : Nat) : l.foldl (fun a b => 2 * a + b.toNat) a = a * 2 ^ l.length + ofBits l := by
  induction l generalizing a with
  | nil => simp [ofBits]
  | cons b l ih =>
    simp only [List.foldl_cons, List.length_cons, ofBits]
    rw [ih, ih (2 * 0 + b.toNat), Nat.pow_succ]
    simp only [Nat.mul_zero, Nat.zero_add, Nat.add_mul]
    have : a * (2 ^ l.length * 2) = 2 * a * 2 ^ l.length := by
      rw [Nat.mul_comm (2 ^ l.length) 2, ← Nat.mul_assoc, Nat.mul_comm a 2]
    omega

theorem ofBits_append (a b : List Bool) : ofBits (a ++ b) = ofBits a * 2 ^ b.length + ofBits b := by
  show (a ++ b).foldl _ 0 = _
  rw [List.foldl_append, foldl_bits]; rfl

theorem ofBits_cons (b : Bool) (l : List Bool) : ofBits (b :: l) = b.toNat * 2 ^ l.length + ofBits l := by
  have := ofBits_append [b] l
  simpa [ofBits] using this

theorem ofBits_lt (l : List Bool) : ofBits l < 2 ^ l.length := by
  induction l with
  | nil => simp [ofBits]
  | cons b l ih => rw [ofBits_cons, List.length_cons, Nat.pow_succ]; cases b <;> simp <;> omega

theorem ofBits_bitsOf (n c : Nat) : ofBits (bitsOf n c) = c % 2 ^ n := by
  induction n generalizing c with
  | zero => simp [bitsOf, ofBits, Nat.mod_one]
  | succ n ih =>
    rw [bitsOf, ofBits_append_one, ih, Nat.pow_succ, Nat.mul_comm (2 ^ n) 2, Nat.mod_mul]
    have : (c % 2 == 1).toNat = c % 2 := by
      rcases Nat.mod_two_eq_zero_or_one c with h | h <;> simp [h]
    omega

theorem bitsOf_ofBits (l : List Bool) : bitsOf l.length (ofBits l) = l := by
  generalize hn : l.length = n
  induction n generalizing l with
  | zero => have := List.eq_nil_of_length_eq_zero hn; subst this; rfl
  | succ n ih =>
    rcases List.eq_nil_or_concat l with rfl | ⟨l', b, rfl⟩
    · simp at hn
    · simp at hn
      rw [bitsOf, List.concat_eq_append, ofBits_append_one]
      have h1 : (2 * ofBits l' + b.toNat) / 2 = ofBits l' := by cases b <;> simp <;> omega
      have h2 : ((2 * ofBits l' + b.toNat) % 2 == 1) = b := by cases b <;> simp <;> omega
      rw [h1, h2, ih l' hn]

theorem ofBits_inj {a b : List Bool} (hl : a.length = b.length) (h : ofBits a = ofBits b) : a = b := by
  rw [← bitsOf_ofBits a, ← bitsOf_ofBits b, hl, h]

theorem bitsOf_add (m n c : Nat) : bitsOf (m + n) c = bitsOf m (c / 2 ^ n) ++ bitsOf n c := by
  induction n generalizing c with
  | zero => simp [bitsOf]
  | succ n ih =>
    rw [← Nat.add_assoc, bitsOf, bitsOf, ih, Nat.div_div_eq_div_mul, ← List.append_assoc, Nat.pow_succ, Nat.mul_comm 2]

theorem bitsOf_mod (n c : Nat) : bitsOf n (c % 2 ^ n) = bitsOf n c := by
  apply ofBits_inj (by simp [length_bitsOf])
  rw [ofBits_bitsOf, ofBits_bitsOf, Nat.mod_mod]

/-- The eight bits of a byte. -/
def bits8 (b : UInt8) : List Bool := bitsOf 8 b.toNat
theorem length_bits8 (b : UInt8) : (bits8 b).length = 8 := length_bitsOf _ _
theorem ofBits_bits8 (b : UInt8) : ofBits (bits8 b) = b.toNat := by
  rw [bits8, ofBits_bitsOf]; exact Nat.mod_eq_of_lt b.toNat_lt

/-- The bits of bytes, and bytes of bits (eight at a time; a rest of fewer than eight is dropped). -/
def unpack (v : List UInt8) : List Bool := v.flatMap bits8
def pack : List Bool → List UInt8
  | a :: b :: c :: d :: e :: f :: g :: h :: r => UInt8.ofNat (ofBits [a, b, c, d, e, f, g, h]) :: pack r
  | _ => []

theorem unpack_cons (b : UInt8) (v : List UInt8) : unpack (b :: v) = bits8 b ++ unpack v := by simp [unpack]
theorem unpack_append (a b : List UInt8) : unpack (a ++ b) = unpack a ++ unpack b := by simp [unpack]
theorem length_unpack (v : List UInt8) : (unpack v).length = 8 * v.length := by
  induction v with
  | nil => rfl
  | cons b v ih => rw [unpack_cons, List.length_append, ih, length_bits8, List.length_cons]; omega

theorem eight {l : List Bool} (h : l.length = 8) : ∃ a b c d e f g i, l = [a, b, c, d, e, f, g, i] := by
  match l, h with
  | [a, b, c, d, e, f, g, i], _ => exact ⟨a, b, c, d, e, f, g, i, rfl⟩

theorem pack_append8 {l : List Bool} (h : l.length = 8) (r : List Bool) : pack (l ++ r) = UInt8.ofNat (ofBits l) :: pack r := by
  obtain ⟨a, b, c, d, e, f, g, i, rfl⟩ := eight h
  rfl

theorem pack_unpack_append (v : List UInt8) (r : List Bool) : pack (unpack v ++ r) = v ++ pack r := by
  induction v with
  | nil => simp [unpack]
  | cons b v ih =>
    rw [unpack_cons, List.append_assoc, pack_append8 (length_bits8 b), ih, ofBits_bits8]
    simp

theorem pack_unpack (v : List UInt8) : pack (unpack v) = v := by
  have := pack_unpack_append v []
  simpa [pack] using this

theorem unpack_pack (n : Nat) : ∀ l : List Bool, l.length = 8 * n → unpack (pack l) = l := by
  induction n with
  | zero => intro l h; have := List.eq_nil_of_length_eq_zero (by simpa using h); subst this; rfl
  | succ n ih =>
    intro l h
    have h8 : (l.take 8).length = 8 := by simp; omega
    have hd : (l.drop 8).length = 8 * n := by simp; omega
    conv => lhs; rw [← List.take_append_drop 8 l]
    rw [pack_append8 h8, unpack_cons, ih _ hd]
    have : bits8 (UInt8.ofNat (ofBits (l.take 8))) = l.take 8 := by
      apply ofBits_inj (by rw [length_bits8, h8])
      have hlt := ofBits_lt (l.take 8)
      rw [h8] at hlt
      rw [ofBits_bits8, UInt8.toNat_ofNat', Nat.mod_eq_of_lt hlt]
    rw [this, List.take_append_drop]

theorem length_pack (n : Nat) : ∀ l : List Bool, l.length = 8 * n → (pack l).length = n := by
  intro l h
  have := congrArg List.length (unpack_pack n l h)
  rw [length_unpack, h] at this
  omega

/-! ### the codes -/
/-- The code of a symbol. -/
def cbits (s : UInt8) : List Bool := bitsOf (hlen s.toNat) (hcode s.toNat)
/-- The codes of a text, one behind the other. -/
def tbits (t : List UInt8) : List Bool := t.flatMap cbits
/-- How many bits of padding. -/
def padOf (n : Nat) : Nat := (8 - n % 8) % 8
/-- A text's codes, filled up with ones. -/
def henc (t : List UInt8) : List UInt8 := pack (tbits t ++ List.replicate (padOf (tbits t).length) true)
/-- How many bytes they are. -/
def nbits (t : List UInt8) : Nat := (t.map fun c => hlen c.toNat).sum
def hencLen (t : List UInt8) : Nat := (nbits t + 7) / 8

theorem tbits_cons (c : UInt8) (t : List UInt8) : tbits (c :: t) = cbits c ++ tbits t := by simp [tbits]
theorem tbits_append (a b : List UInt8) : tbits (a ++ b) = tbits a ++ tbits b := by simp [tbits]
theorem length_tbits (t : List UInt8) : (tbits t).length = nbits t := by
  induction t with
  | nil => rfl
  | cons c t ih => rw [tbits_cons, List.length_append, ih]; simp [nbits, cbits, length_bitsOf]
theorem nbits_append (a b : List UInt8) : nbits (a ++ b) = nbits a + nbits b := by simp [nbits]
theorem padded (n : Nat) : n + padOf n = 8 * ((n + 7) / 8) := by unfold padOf; omega
theorem unpack_henc (t : List UInt8) : unpack (henc t) = tbits t ++ List.replicate (padOf (tbits t).length) true :=
  unpack_pack ((nbits t + 7) / 8) _ (by rw [List.length_append, List.length_replicate, padded, length_tbits])
theorem length_henc (t : List UInt8) : (henc t).length = hencLen t :=
  length_pack ((nbits t + 7) / 8) _ (by rw [List.length_append, List.length_replicate, padded, length_tbits])

end Go.Proofs.YtnemkaiaieomfaaDoor.HP
