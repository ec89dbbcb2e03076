/-
  Texts of this seat, one behind the other: Law, Regs, Huff, HuffTree, HuffDec, HuffLaw, HD, MapM, HuffLen, HuffEnc. What each one shows stands at its head. No condition.
-/
import Derived.WalkKit
import Derived.ProofKit
import Derived.OpenShut
import Derived.Deep.RegionHeld3
import Derived.OpenVars
import Derived.StillTail
import Derived.Deep.Draws
import Derived.StillTactics
import Derived.Lib.Hide
import Derived.Laws.StructEq
import Derived.Laws.AppendOwn
import Derived.Test.YtmlnmllnlekcgaaDoorChecked
import Derived.Test.YtmlnmllnlekcgaaDoorRows
import Derived.WalkLawsBesides
import Derived.Outline
import Derived.Lib.LaidTab
/-
  How every law of this seat is closed: where the call returns true and nothing that was there before has changed, the row's post holds. Over any program. No condition.
-/
namespace Go.Proofs.YtmlnmllnlekcgaaDoor
open Go.ChangeShapes Go.WideShapes Go.ChangeAt Go.RowKit

/-- A region that draws its order, walked by hand: number i is taken first, its value written into slot d. -/
theorem takeH {P : Program} {ops : Array Oper} {Q : Exit → Act → World → Prop} {md : Region.Mode} {S : World → Prop} (i : Nat) {d : Nat} {oi : Oper} {v : Value} {fuel : Nat} {listed : Array Bool} {a : Act} {w : World} (hi : ops[i]? = some oi) (hd : oi.dst = some d)
    (hs : Region.noSelect ops = true) (hf : Region.free md ops listed i = true) (hr : (Region.ready md ops listed).contains i = true)
    (hQ : ∀ c a w, Q (.panic c) (a.put oi.dst v) w → Q (.panic c) a w) (hy : YieldsIf P ops S oi v a) (hS : S w)
    (h : wpAnyH P md ops Q S fuel (listed.setIfInBounds i true) { a with tmps := a.tmps.setIfInBounds d v } w) : wpAnyH P md ops Q S (fuel + 1) listed a w :=
  wpAnyH_take hi hs hf hr hQ hy hS (by rw [hd]; exact h)

theorem ret_int {k : IntKind} {a b : Int} (h : a = b) : Ending.returned (.int k a) = .returned (.int k b) := by rw [h]
theorem ret_bool {a b : Bool} (h : a = b) : Ending.returned (.bool a) = .returned (.bool b) := by rw [h]

/-- What was read of the arguments is read again where old memory has not changed. -/
theorem trodAll_stays {H : Type} {enc : TypeId × Value → H} {P : Program} (hl : laidOutB P = true) {W W' : World} (hb : Below W.heap.size W W') :
    ∀ (ts : List TypeId) (vs : List Value) (ds : List (DataW H)) (ps : List MemPlace), (∀ t ∈ ts, P.readableRec t = true ∧ t < P.types.size) →
      (∀ p ∈ ps, p.block < W.heap.size) → DataW.TrodAll enc P W 0 (fun _ => true) true ts vs ds ps →
      DataW.TrodAll enc P W' 0 (fun b => decide (b < W.heap.size)) true ts vs ds ps := by
  intro ts
  induction ts with
  | nil =>
    intro vs ds ps _ _ h
    obtain ⟨rfl, rfl, rfl⟩ := trodAll_nil h
    exact trodAll_mk0
  | cons t ts ih =>
    intro vs ds ps hr hlt h
    obtain ⟨v0, vs0, d0, ds0, p0, q0, rfl, rfl, rfl, h0, r0⟩ := trodAll_cons h
    refine trodAll_cons_mk ?_ (ih _ _ _ (fun t ht => hr t (List.mem_cons_of_mem _ ht)) (fun p hp => hlt p (List.mem_append_right _ hp)) r0)
    exact Below.trod hl (hr t List.mem_cons_self).1 (hr t List.mem_cons_self).2 h0 hb (fun p hp => hlt p (List.mem_append_left _ hp))

theorem post_law {H : Type} {enc : TypeId × Value → H} {P : Program} {f : Func} {s : ChangeSpec} {apart fresh handsOn : Bool} {W W' : World} {args : Array Value} {ds gs : List (DataW H)} {before : List MemPlace} {tb : TypeId}
    (hl : laidOutB P = true) (hr : ∀ t ∈ f.params.toList, P.readableRec t = true ∧ t < P.types.size) (hres : f.resultTypes = #[tb]) (hbool : P.underlying tb = some .bool) (hv : varsRowed P s.vars = true)
    (hfn : s.fn H (ds ++ gs) = { results := [.lit (.bool true)], args := ds, vars := gs })
    (hW : DataW.Whole enc P f.params.toList s.vars apart W args.toList ds gs before) (hb : Below W.heap.size W W') :
    s.post enc P f apart fresh handsOn false W args (.bool true) W' := by
  have hlt : ∀ p ∈ before, p.block < W.heap.size := fun p hp => hW.lt p hp
  have hW0 := hW
  obtain ⟨pa, pv, hA, hV, rfl, _, _⟩ := hW
  refine ⟨ds, gs, _, [], pa, pv, hW0, ?_, ?_, ?_, hb.frame _, fun h => by cases h⟩
  · rw [hfn, hres]
    exact trodAll_mk1 (shut_bool hbool _)
  · rw [hfn]
    exact trodAll_stays hl hb _ _ _ _ hr (fun p hp => hlt p (List.mem_append_left _ hp)) hA
  · rw [hfn]
    exact Below.trodVars hl hb hv hV

/-- As many readings as named variables. -/
theorem trodVars_length {H : Type} {enc : TypeId × Value → H} {P : Program} {w : World} {sp : Nat → Bool} : ∀ (ns : List String) (gs : List (DataW H)) (ps : List MemPlace), DataW.TrodVars enc P w sp ns gs ps → gs.length = ns.length
  | [], [], _, _ => rfl
  | [], _ :: _, _, h => h.elim
  | _ :: _, [], _, h => h.elim
  | _ :: ns, _ :: gs, _, h => by
    obtain ⟨_, _, _, _, _, q, _, _, _, _, h', _⟩ := h
    simp [trodVars_length ns gs q h']
theorem list0 {α : Type} {l : List α} (h : l.length = 0) : l = [] := List.eq_nil_of_length_eq_zero h
theorem list1 {α : Type} {l : List α} (h : l.length = 1) : ∃ g0, l = [g0] := by
  match l, h with
  | [g0], _ => exact ⟨g0, rfl⟩
theorem list2 {α : Type} {l : List α} (h : l.length = 2) : ∃ g0 g1, l = [g0, g1] := by
  match l, h with
  | [g0, g1], _ => exact ⟨g0, g1, rfl⟩
theorem list3 {α : Type} {l : List α} (h : l.length = 3) : ∃ g0 g1 g2, l = [g0, g1, g2] := by
  match l, h with
  | [g0, g1, g2], _ => exact ⟨g0, g1, g2, rfl⟩
theorem list4 {α : Type} {l : List α} (h : l.length = 4) : ∃ g0 g1 g2 g3, l = [g0, g1, g2, g3] := by
  match l, h with
  | [g0, g1, g2, g3], _ => exact ⟨g0, g1, g2, g3, rfl⟩
theorem list5 {α : Type} {l : List α} (h : l.length = 5) : ∃ g0 g1 g2 g3 g4, l = [g0, g1, g2, g3, g4] := by
  match l, h with
  | [g0, g1, g2, g3, g4], _ => exact ⟨g0, g1, g2, g3, g4, rfl⟩
theorem list6 {α : Type} {l : List α} (h : l.length = 6) : ∃ g0 g1 g2 g3 g4 g5, l = [g0, g1, g2, g3, g4, g5] := by
  match l, h with
  | [g0, g1, g2, g3, g4, g5], _ => exact ⟨g0, g1, g2, g3, g4, g5, rfl⟩
theorem list7 {α : Type} {l : List α} (h : l.length = 7) : ∃ g0 g1 g2 g3 g4 g5 g6, l = [g0, g1, g2, g3, g4, g5, g6] := by
  match l, h with
  | [g0, g1, g2, g3, g4, g5, g6], _ => exact ⟨g0, g1, g2, g3, g4, g5, g6, rfl⟩

#print axioms post_law
end Go.Proofs.YtmlnmllnlekcgaaDoor
/-
  Regions that draw their order: all but the last operations only read. No condition.
-/
namespace Go.Proofs.YtmlnmllnlekcgaaDoor
open Go.ChangeShapes Go.WideShapes Go.ChangeAt Go.RowKit

theorem stillTail {P : Program} {id : Nat} {Q : Exit → Act → World → Prop} {a : Act} {w : World} {l : List Oper} (n : Nat) (hm : P.follows .mixedOrders = true) (hB : Region.lexTailB .any l.toArray n = true)
    (h : wpStill P l.toArray w.drew (fun a' => wpList P l.toArray Q (l.drop n) a' w.drew) (l.take n) a) : (Code.region id l.toArray true).wp P Q a w := wp_region_still_tail n hm hB h
theorem below_drew {B : Nat} {w w' : World} (h : Below B w w') : Below B w w'.drew := h.trans ⟨rfl, rfl, rfl, Nat.le_refl _, fun _ _ => rfl⟩
theorem below_drewN {B n : Nat} {w w' : World} (h : Below B w w') : Below B w (w'.drewN n) := h.trans ⟨rfl, rfl, rfl, Nat.le_refl _, fun _ _ => rfl⟩
end Go.Proofs.YtmlnmllnlekcgaaDoor
/-
  PLAIN: the Huffman code of HPACK as lists of bits: its table, the tree that a decoder walks byte by byte, that decoding undoes encoding and encoding undoes decoding. No program in sight.
-/
namespace Go.Proofs.YtmlnmllnlekcgaaDoor.HP

/-- The code lengths (RFC 7541, appendix B). -/
def lensL : List Nat := [13, 23, 28, 28, 28, 28, 28, 28, 28, 24, 30, 28, 28, 30, 28, 28, 28, 28, 28, 28, 28, 28, 30, 28, 28, 28, 28, 28, 28, 28, 28, 28, 6, 10, 10, 12, 13, 6, 8, 11, 10, 10, 8, 11, 8, 6, 6, 6, 5, 5, 5, 6, 6, 6, 6, 6, 6, 6, 7, 8, 15, 6, 12, 10, 13, 6, 7, 7, 7, 7, 7, 7, 7, 7, 7, 7, 7, 7, 7, 7, 7, 7, 7, 7, 7, 7, 7, 7, 8, 7, 8, 13, 19, 13, 14, 6, 15, 5, 6, 5, 6, 5, 6, 6, 6, 5, 7, 7, 6, 6, 6, 5, 6, 7, 6, 5, 5, 6, 7, 7, 7, 7, 7, 15, 11, 14, 13, 28, 20, 22, 20, 20, 22, 22, 22, 23, 22, 23, 23, 23, 23, 23, 24, 23, 24, 24, 22, 23, 24, 23, 23, 23, 23, 21, 22, 23, 22, 23, 23, 24, 22, 21, 20, 22, 22, 23, 23, 21, 23, 22, 22, 24, 21, 22, 23, 23, 21, 21, 22, 21, 23, 22, 23, 23, 20, 22, 22, 22, 23, 22, 22, 23, 26, 26, 20, 19, 22, 23, 22, 25, 26, 26, 26, 27, 27, 26, 24, 25, 19, 21, 26, 27, 27, 26, 27, 24, 21, 21, 26, 26, 28, 27, 27, 27, 20, 24, 20, 21, 22, 21, 21, 23, 22, 22, 25, 25, 24, 24, 26, 23, 26, 27, 26, 26, 27, 27, 27, 27, 27, 28, 27, 27, 27, 27, 27, 26]

/-- The codes, as numbers (RFC 7541, appendix B). -/
def codesL : List Nat := [8184, 8388568, 268435426, 268435427, 268435428, 268435429, 268435430, 268435431, 268435432, 16777194, 1073741820, 268435433, 268435434, 1073741821, 268435435, 268435436, 268435437, 268435438, 268435439, 268435440, 268435441, 268435442, 1073741822, 268435443, 268435444, 268435445, 268435446, 268435447, 268435448, 268435449, 268435450, 268435451, 20, 1016, 1017, 4090, 8185, 21, 248, 2042, 1018, 1019, 249, 2043, 250, 22, 23, 24, 0, 1, 2, 25, 26, 27, 28, 29, 30, 31, 92, 251, 32764, 32, 4091, 1020, 8186, 33, 93, 94, 95, 96, 97, 98, 99, 100, 101, 102, 103, 104, 105, 106, 107, 108, 109, 110, 111, 112, 113, 114, 252, 115, 253, 8187, 524272, 8188, 16380, 34, 32765, 3, 35, 4, 36, 5, 37, 38, 39, 6, 116, 117, 40, 41, 42, 7, 43, 118, 44, 8, 9, 45, 119, 120, 121, 122, 123, 32766, 2044, 16381, 8189, 268435452, 1048550, 4194258, 1048551, 1048552, 4194259, 4194260, 4194261, 8388569, 4194262, 8388570, 8388571, 8388572, 8388573, 8388574, 16777195, 8388575, 16777196, 16777197, 4194263, 8388576, 16777198, 8388577, 8388578, 8388579, 8388580, 2097116, 4194264, 8388581, 4194265, 8388582, 8388583, 16777199, 4194266, 2097117, 1048553, 4194267, 4194268, 8388584, 8388585, 2097118, 8388586, 4194269, 4194270, 16777200, 2097119, 4194271, 8388587, 8388588, 2097120, 2097121, 4194272, 2097122, 8388589, 4194273, 8388590, 8388591, 1048554, 4194274, 4194275, 4194276, 8388592, 4194277, 4194278, 8388593, 67108832, 67108833, 1048555, 524273, 4194279, 8388594, 4194280, 33554412, 67108834, 67108835, 67108836, 134217694, 134217695, 67108837, 16777201, 33554413, 524274, 2097123, 67108838, 134217696, 134217697, 67108839, 134217698, 16777202, 2097124, 2097125, 67108840, 67108841, 268435453, 134217699, 134217700, 134217701, 1048556, 16777203, 1048557, 2097126, 4194281, 2097127, 2097128, 8388595, 4194282, 4194283, 33554414, 33554415, 16777204, 16777205, 67108842, 8388596, 67108843, 134217702, 67108844, 67108845, 134217703, 134217704, 134217705, 134217706, 134217707, 268435454, 134217708, 134217709, 134217710, 134217711, 134217712, 67108846]

def hlen (s : Nat) : Nat := lensL.getD s 0
def hcode (s : Nat) : Nat := codesL.getD s 0

/-! ### numbers and bits -/
/-- The n low bits of c, the highest first. -/
def bitsOf : Nat → Nat → List Bool
  | 0, _ => []
  | n + 1, c => bitsOf n (c / 2) ++ [c % 2 == 1]

def ofBits (l : List Bool) : Nat := l.foldl (fun a b => 2 * a + b.toNat) 0

theorem length_bitsOf (n c : Nat) : (bitsOf n c).length = n := by
  induction n generalizing c with
  | zero => rfl
  | succ n ih => simp [bitsOf, ih]

theorem ofBits_append_one (l : List Bool) (b : Bool) : ofBits (l ++ [b]) = 2 * ofBits l + b.toNat := by
  simp [ofBits]

theorem foldl_bits (l : List Bool) (a : Nat) : l.foldl (fun a b => 2 * a + b.toNat) a = a * 2 ^ l.length + ofBits l := by
  induction l generalizing a with
  | nil => simp [ofBits]
  | cons b l ih =>
    simp only [List.foldl_cons, List.length_cons, ofBits]
    rw [ih, ih (2 * 0 + b.toNat), Nat.pow_succ]
    simp only [Nat.mul_zero, Nat.zero_add, Nat.add_mul]
    have : a * (2 ^ l.length * 2) = 2 * a * 2 ^ l.length := by
      rw [Nat.mul_comm (2 ^ l.length) 2, ← Nat.mul_assoc, Nat.mul_comm a 2]
    omega

theorem ofBits_append (a b : List Bool) : ofBits (a ++ b) = ofBits a * 2 ^ b.length + ofBits b := by
  show (a ++ b).foldl _ 0 = _
  rw [List.foldl_append, foldl_bits]; rfl

theorem ofBits_cons (b : Bool) (l : List Bool) : ofBits (b :: l) = b.toNat * 2 ^ l.length + ofBits l := by
  have := ofBits_append [b] l
  simpa [ofBits] using this

theorem ofBits_lt (l : List Bool) : ofBits l < 2 ^ l.length := by
  induction l with
  | nil => simp [ofBits]
  | cons b l ih => rw [ofBits_cons, List.length_cons, Nat.pow_succ]; cases b <;> simp <;> omega

theorem ofBits_bitsOf (n c : Nat) : ofBits (bitsOf n c) = c % 2 ^ n := by
  induction n generalizing c with
  | zero => simp [bitsOf, ofBits, Nat.mod_one]
  | succ n ih =>
    rw [bitsOf, ofBits_append_one, ih, Nat.pow_succ, Nat.mul_comm (2 ^ n) 2, Nat.mod_mul]
    have : (c % 2 == 1).toNat = c % 2 := by
      rcases Nat.mod_two_eq_zero_or_one c with h | h <;> simp [h]
    omega

theorem bitsOf_ofBits (l : List Bool) : bitsOf l.length (ofBits l) = l := by
  generalize hn : l.length = n
  induction n generalizing l with
  | zero => have := List.eq_nil_of_length_eq_zero hn; subst this; rfl
  | succ n ih =>
    rcases List.eq_nil_or_concat l with rfl | ⟨l', b, rfl⟩
    · simp at hn
    · simp at hn
      rw [bitsOf, List.concat_eq_append, ofBits_append_one]
      have h1 : (2 * ofBits l' + b.toNat) / 2 = ofBits l' := by cases b <;> simp <;> omega
      have h2 : ((2 * ofBits l' + b.toNat) % 2 == 1) = b := by cases b <;> simp <;> omega
      rw [h1, h2, ih l' hn]

theorem ofBits_inj {a b : List Bool} (hl : a.length = b.length) (h : ofBits a = ofBits b) : a = b := by
  rw [← bitsOf_ofBits a, ← bitsOf_ofBits b, hl, h]

theorem bitsOf_add (m n c : Nat) : bitsOf (m + n) c = bitsOf m (c / 2 ^ n) ++ bitsOf n c := by
  induction n generalizing c with
  | zero => simp [bitsOf]
  | succ n ih =>
    rw [← Nat.add_assoc, bitsOf, bitsOf, ih, Nat.div_div_eq_div_mul, ← List.append_assoc, Nat.pow_succ, Nat.mul_comm 2]

theorem bitsOf_mod (n c : Nat) : bitsOf n (c % 2 ^ n) = bitsOf n c := by
  apply ofBits_inj (by simp [length_bitsOf])
  rw [ofBits_bitsOf, ofBits_bitsOf, Nat.mod_mod]

/-- The eight bits of a byte. -/
def bits8 (b : UInt8) : List Bool := bitsOf 8 b.toNat
theorem length_bits8 (b : UInt8) : (bits8 b).length = 8 := length_bitsOf _ _
theorem ofBits_bits8 (b : UInt8) : ofBits (bits8 b) = b.toNat := by
  rw [bits8, ofBits_bitsOf]; exact Nat.mod_eq_of_lt b.toNat_lt

/-- The bits of bytes, and bytes of bits (eight at a time; a rest of fewer than eight is dropped). -/
def unpack (v : List UInt8) : List Bool := v.flatMap bits8
def pack : List Bool → List UInt8
  | a :: b :: c :: d :: e :: f :: g :: h :: r => UInt8.ofNat (ofBits [a, b, c, d, e, f, g, h]) :: pack r
  | _ => []

theorem unpack_cons (b : UInt8) (v : List UInt8) : unpack (b :: v) = bits8 b ++ unpack v := by simp [unpack]
theorem unpack_append (a b : List UInt8) : unpack (a ++ b) = unpack a ++ unpack b := by simp [unpack]
theorem length_unpack (v : List UInt8) : (unpack v).length = 8 * v.length := by
  induction v with
  | nil => rfl
  | cons b v ih => rw [unpack_cons, List.length_append, ih, length_bits8, List.length_cons]; omega

theorem eight {l : List Bool} (h : l.length = 8) : ∃ a b c d e f g i, l = [a, b, c, d, e, f, g, i] := by
  match l, h with
  | [a, b, c, d, e, f, g, i], _ => exact ⟨a, b, c, d, e, f, g, i, rfl⟩

theorem pack_append8 {l : List Bool} (h : l.length = 8) (r : List Bool) : pack (l ++ r) = UInt8.ofNat (ofBits l) :: pack r := by
  obtain ⟨a, b, c, d, e, f, g, i, rfl⟩ := eight h
  rfl

theorem pack_unpack_append (v : List UInt8) (r : List Bool) : pack (unpack v ++ r) = v ++ pack r := by
  induction v with
  | nil => simp [unpack]
  | cons b v ih =>
    rw [unpack_cons, List.append_assoc, pack_append8 (length_bits8 b), ih, ofBits_bits8]
    simp

theorem pack_unpack (v : List UInt8) : pack (unpack v) = v := by
  have := pack_unpack_append v []
  simpa [pack] using this

theorem unpack_pack (n : Nat) : ∀ l : List Bool, l.length = 8 * n → unpack (pack l) = l := by
  induction n with
  | zero => intro l h; have := List.eq_nil_of_length_eq_zero (by simpa using h); subst this; rfl
  | succ n ih =>
    intro l h
    have h8 : (l.take 8).length = 8 := by simp; omega
    have hd : (l.drop 8).length = 8 * n := by simp; omega
    conv => lhs; rw [← List.take_append_drop 8 l]
    rw [pack_append8 h8, unpack_cons, ih _ hd]
    have : bits8 (UInt8.ofNat (ofBits (l.take 8))) = l.take 8 := by
      apply ofBits_inj (by rw [length_bits8, h8])
      have hlt := ofBits_lt (l.take 8)
      rw [h8] at hlt
      rw [ofBits_bits8, UInt8.toNat_ofNat', Nat.mod_eq_of_lt hlt]
    rw [this, List.take_append_drop]

theorem length_pack (n : Nat) : ∀ l : List Bool, l.length = 8 * n → (pack l).length = n := by
  intro l h
  have := congrArg List.length (unpack_pack n l h)
  rw [length_unpack, h] at this
  omega

/-! ### the codes -/
/-- The code of a symbol. -/
def cbits (s : UInt8) : List Bool := bitsOf (hlen s.toNat) (hcode s.toNat)
/-- The codes of a text, one behind the other. -/
def tbits (t : List UInt8) : List Bool := t.flatMap cbits
/-- How many bits of padding. -/
def padOf (n : Nat) : Nat := (8 - n % 8) % 8
/-- A text's codes, filled up with ones. -/
def henc (t : List UInt8) : List UInt8 := pack (tbits t ++ List.replicate (padOf (tbits t).length) true)
/-- How many bytes they are. -/
def nbits (t : List UInt8) : Nat := (t.map fun c => hlen c.toNat).sum
def hencLen (t : List UInt8) : Nat := (nbits t + 7) / 8

theorem tbits_cons (c : UInt8) (t : List UInt8) : tbits (c :: t) = cbits c ++ tbits t := by simp [tbits]
theorem tbits_append (a b : List UInt8) : tbits (a ++ b) = tbits a ++ tbits b := by simp [tbits]
theorem length_tbits (t : List UInt8) : (tbits t).length = nbits t := by
  induction t with
  | nil => rfl
  | cons c t ih => rw [tbits_cons, List.length_append, ih]; simp [nbits, cbits, length_bitsOf]
theorem nbits_append (a b : List UInt8) : nbits (a ++ b) = nbits a + nbits b := by simp [nbits]
theorem padded (n : Nat) : n + padOf n = 8 * ((n + 7) / 8) := by unfold padOf; omega
theorem unpack_henc (t : List UInt8) : unpack (henc t) = tbits t ++ List.replicate (padOf (tbits t).length) true :=
  unpack_pack ((nbits t + 7) / 8) _ (by rw [List.length_append, List.length_replicate, padded, length_tbits])
theorem length_henc (t : List UInt8) : (henc t).length = hencLen t :=
  length_pack ((nbits t + 7) / 8) _ (by rw [List.length_append, List.length_replicate, padded, length_tbits])

end Go.Proofs.YtmlnmllnlekcgaaDoor.HP
/-
  PLAIN: the tree of the Huffman code as a decoder builds it, byte by byte, and what it answers.
-/
namespace Go.Proofs.YtmlnmllnlekcgaaDoor.HP

/-- What a place of a node's row holds: nothing, another node, a symbol with the number of bits that its code has in this byte. -/
inductive Ent where
  | none
  | inner (k : Nat)
  | leaf (s cl : Nat)
  deriving DecidableEq, Repr

/-- What was stored: in row k, from place i on, so many places. The newest first. -/
abbrev Log := List (Nat × Nat × Nat × Ent)

def lookL : Log → Nat → Nat → Ent
  | [], _, _ => .none
  | (k', s, c, e) :: l, k, i => if k' = k ∧ s ≤ i ∧ i < s + c then e else lookL l k i

structure TB where
  n : Nat
  log : Log
  deriving DecidableEq

/-- The way down to a code's last byte; none where it would come upon a symbol. -/
def desc : Nat → TB → Nat → Nat → Nat → Option (TB × Nat × Nat)
  | 0, t, cur, _, cl => if cl ≤ 8 then some (t, cur, cl) else none
  | f + 1, t, cur, code, cl =>
    if cl ≤ 8 then some (t, cur, cl)
    else
      match lookL t.log cur (code / 2 ^ (cl - 8) % 256) with
      | .inner k => if k < t.n then desc f t k code (cl - 8) else none
      | .leaf _ _ => none
      | .none => desc f ⟨t.n + 1, (cur, code / 2 ^ (cl - 8) % 256, 1, .inner t.n) :: t.log⟩ t.n code (cl - 8)

def startOf (code cl : Nat) : Nat := code * 2 ^ (8 - cl) % 256
def addLeaf (r : TB × Nat × Nat) (s code : Nat) : Option TB :=
  if 1 ≤ r.2.2 ∧ startOf code r.2.2 + 2 ^ (8 - r.2.2) ≤ 256 then some ⟨r.1.n, (r.2.1, startOf code r.2.2, 2 ^ (8 - r.2.2), .leaf s r.2.2) :: r.1.log⟩ else none
def addSym (t : TB) (s : Nat) : Option TB :=
  match desc 4 t 0 (hcode s) (hlen s) with
  | some r => addLeaf r s (hcode s)
  | none => none
def tbAt : Nat → Option TB
  | 0 => some ⟨1, []⟩
  | s + 1 =>
    match tbAt s with
    | some t => addSym t s
    | none => none

def finalL : Log := [(10, 128, 64, .leaf 255 2), (3, 0, 32, .leaf 254 3), (14, 224, 32, .leaf 253 3), (14, 192, 32, .leaf 252 3), (14, 160, 32, .leaf 251 3), (14, 128, 32, .leaf 250 3), (4, 224, 16, .leaf 249 4), (14, 96, 32, .leaf 248 3), (14, 64, 32, .leaf 247 3), (14, 32, 32, .leaf 246 3), (14, 0, 32, .leaf 245 3), (2, 253, 1, .inner 14), (11, 224, 32, .leaf 244 3), (10, 64, 64, .leaf 243 2), (10, 0, 64, .leaf 242 2), (11, 192, 32, .leaf 241 3), (12, 192, 64, .leaf 240 2), (2, 232, 2, .leaf 239 7), (12, 128, 64, .leaf 238 2), (2, 245, 1, .leaf 237 8), (2, 244, 1, .leaf 236 8), (13, 128, 128, .leaf 235 1), (13, 0, 128, .leaf 234 1), (2, 247, 1, .inner 13), (2, 172, 4, .leaf 233 6), (2, 168, 4, .leaf 232 6), (2, 230, 2, .leaf 231 7), (2, 64, 8, .leaf 230 5), (2, 56, 8, .leaf 229 5), (2, 164, 4, .leaf 228 6), (2, 48, 8, .leaf 227 5), (6, 208, 16, .leaf 226 4), (2, 243, 1, .leaf 225 8), (6, 192, 16, .leaf 224 4), (11, 160, 32, .leaf 223 3), (11, 128, 32, .leaf 222 3), (11, 96, 32, .leaf 221 3), (4, 208, 16, .leaf 220 4), (12, 64, 64, .leaf 219 2), (12, 0, 64, .leaf 218 2), (2, 250, 1, .inner 12), (2, 40, 8, .leaf 217 5), (2, 32, 8, .leaf 216 5), (2, 242, 1, .leaf 215 8), (11, 64, 32, .leaf 214 3), (9, 192, 64, .leaf 213 2), (11, 32, 32, .leaf 212 3), (11, 0, 32, .leaf 211 3), (2, 252, 1, .inner 11), (9, 128, 64, .leaf 210 2), (2, 24, 8, .leaf 209 5), (6, 64, 32, .leaf 208 3), (8, 128, 128, .leaf 207 1), (2, 241, 1, .leaf 206 8), (9, 64, 64, .leaf 205 2), (10, 224, 32, .leaf 204 3), (10, 192, 32, .leaf 203 3), (2, 251, 1, .inner 10), (9, 0, 64, .leaf 202 2), (2, 249, 1, .inner 9), (7, 192, 64, .leaf 201 2), (7, 128, 64, .leaf 200 2), (8, 0, 128, .leaf 199 1), (2, 246, 1, .inner 8), (2, 160, 4, .leaf 198 6), (2, 228, 2, .leaf 197 7), (2, 156, 4, .leaf 196 6), (6, 32, 32, .leaf 195 3), (6, 176, 16, .leaf 194 4), (7, 64, 64, .leaf 193 2), (7, 0, 64, .leaf 192 2), (2, 248, 1, .inner 7), (2, 226, 2, .leaf 191 7), (2, 152, 4, .leaf 190 6), (2, 148, 4, .leaf 189 6), (2, 224, 2, .leaf 188 7), (2, 144, 4, .leaf 187 6), (2, 140, 4, .leaf 186 6), (2, 136, 4, .leaf 185 6), (6, 160, 16, .leaf 184 4), (2, 222, 2, .leaf 183 7), (2, 220, 2, .leaf 182 7), (2, 132, 4, .leaf 181 6), (2, 218, 2, .leaf 180 7), (2, 16, 8, .leaf 179 5), (2, 128, 4, .leaf 178 6), (2, 8, 8, .leaf 177 5), (2, 0, 8, .leaf 176 5), (2, 216, 2, .leaf 175 7), (2, 214, 2, .leaf 174 7), (2, 124, 4, .leaf 173 6), (6, 248, 8, .leaf 172 5), (2, 240, 1, .leaf 171 8), (2, 120, 4, .leaf 170 6), (2, 116, 4, .leaf 169 6), (2, 212, 2, .leaf 168 7), (6, 240, 8, .leaf 167 5), (2, 210, 2, .leaf 166 7), (2, 208, 2, .leaf 165 7), (2, 112, 4, .leaf 164 6), (2, 108, 4, .leaf 163 6), (6, 144, 16, .leaf 162 4), (6, 232, 8, .leaf 161 5), (2, 104, 4, .leaf 160 6), (2, 239, 1, .leaf 159 8), (2, 206, 2, .leaf 158 7), (2, 204, 2, .leaf 157 7), (2, 100, 4, .leaf 156 6), (2, 202, 2, .leaf 155 7), (2, 96, 4, .leaf 154 6), (6, 224, 8, .leaf 153 5), (2, 200, 2, .leaf 152 7), (2, 198, 2, .leaf 151 7), (2, 196, 2, .leaf 150 7), (2, 194, 2, .leaf 149 7), (2, 238, 1, .leaf 148 8), (2, 192, 2, .leaf 147 7), (2, 92, 4, .leaf 146 6), (2, 237, 1, .leaf 145 8), (2, 236, 1, .leaf 144 8), (2, 190, 2, .leaf 143 7), (2, 235, 1, .leaf 142 8), (2, 188, 2, .leaf 141 7), (2, 186, 2, .leaf 140 7), (2, 184, 2, .leaf 139 7), (2, 182, 2, .leaf 138 7), (2, 180, 2, .leaf 137 7), (2, 88, 4, .leaf 136 6), (2, 178, 2, .leaf 135 7), (2, 84, 4, .leaf 134 6), (2, 80, 4, .leaf 133 6), (2, 76, 4, .leaf 132 6), (6, 128, 16, .leaf 131 4), (6, 112, 16, .leaf 130 4), (2, 72, 4, .leaf 129 6), (6, 96, 16, .leaf 128 4), (4, 192, 16, .leaf 127 4), (1, 232, 8, .leaf 126 5), (1, 244, 4, .leaf 125 6), (1, 128, 32, .leaf 124 3), (1, 252, 2, .leaf 123 7), (0, 246, 2, .leaf 122 7), (0, 244, 2, .leaf 121 7), (0, 242, 2, .leaf 120 7), (0, 240, 2, .leaf 119 7), (0, 238, 2, .leaf 118 7), (0, 180, 4, .leaf 117 6), (0, 72, 8, .leaf 116 5), (0, 64, 8, .leaf 115 5), (0, 176, 4, .leaf 114 6), (0, 236, 2, .leaf 113 7), (0, 172, 4, .leaf 112 6), (0, 56, 8, .leaf 111 5), (0, 168, 4, .leaf 110 6), (0, 164, 4, .leaf 109 6), (0, 160, 4, .leaf 108 6), (0, 234, 2, .leaf 107 7), (0, 232, 2, .leaf 106 7), (0, 48, 8, .leaf 105 5), (0, 156, 4, .leaf 104 6), (0, 152, 4, .leaf 103 6), (0, 148, 4, .leaf 102 6), (0, 40, 8, .leaf 101 5), (0, 144, 4, .leaf 100 6), (0, 32, 8, .leaf 99 5), (0, 140, 4, .leaf 98 6), (0, 24, 8, .leaf 97 5), (1, 250, 2, .leaf 96 7), (0, 136, 4, .leaf 95 6), (1, 240, 4, .leaf 94 6), (1, 224, 8, .leaf 93 5), (6, 0, 32, .leaf 92 3), (1, 254, 1, .inner 6), (1, 216, 8, .leaf 91 5), (0, 253, 1, .leaf 90 8), (0, 230, 2, .leaf 89 7), (0, 252, 1, .leaf 88 8), (0, 228, 2, .leaf 87 7), (0, 226, 2, .leaf 86 7), (0, 224, 2, .leaf 85 7), (0, 222, 2, .leaf 84 7), (0, 220, 2, .leaf 83 7), (0, 218, 2, .leaf 82 7), (0, 216, 2, .leaf 81 7), (0, 214, 2, .leaf 80 7), (0, 212, 2, .leaf 79 7), (0, 210, 2, .leaf 78 7), (0, 208, 2, .leaf 77 7), (0, 206, 2, .leaf 76 7), (0, 204, 2, .leaf 75 7), (0, 202, 2, .leaf 74 7), (0, 200, 2, .leaf 73 7), (0, 198, 2, .leaf 72 7), (0, 196, 2, .leaf 71 7), (0, 194, 2, .leaf 70 7), (0, 192, 2, .leaf 69 7), (0, 190, 2, .leaf 68 7), (0, 188, 2, .leaf 67 7), (0, 186, 2, .leaf 66 7), (0, 132, 4, .leaf 65 6), (1, 208, 8, .leaf 64 5), (1, 0, 64, .leaf 63 2), (1, 176, 16, .leaf 62 4), (0, 128, 4, .leaf 61 6), (1, 248, 2, .leaf 60 7), (0, 251, 1, .leaf 59 8), (0, 184, 2, .leaf 58 7), (0, 124, 4, .leaf 57 6), (0, 120, 4, .leaf 56 6), (0, 116, 4, .leaf 55 6), (0, 112, 4, .leaf 54 6), (0, 108, 4, .leaf 53 6), (0, 104, 4, .leaf 52 6), (0, 100, 4, .leaf 51 6), (0, 16, 8, .leaf 50 5), (0, 8, 8, .leaf 49 5), (0, 0, 8, .leaf 48 5), (0, 96, 4, .leaf 47 6), (0, 92, 4, .leaf 46 6), (0, 88, 4, .leaf 45 6), (0, 250, 1, .leaf 44 8), (1, 96, 32, .leaf 43 3), (0, 249, 1, .leaf 42 8), (5, 192, 64, .leaf 41 2), (5, 128, 64, .leaf 40 2), (1, 64, 32, .leaf 39 3), (0, 248, 1, .leaf 38 8), (0, 84, 4, .leaf 37 6), (1, 200, 8, .leaf 36 5), (1, 160, 16, .leaf 35 4), (5, 64, 64, .leaf 34 2), (5, 0, 64, .leaf 33 2), (0, 254, 1, .inner 5), (0, 80, 4, .leaf 32 6), (4, 176, 16, .leaf 31 4), (4, 160, 16, .leaf 30 4), (4, 144, 16, .leaf 29 4), (4, 128, 16, .leaf 28 4), (4, 112, 16, .leaf 27 4), (4, 96, 16, .leaf 26 4), (4, 80, 16, .leaf 25 4), (4, 64, 16, .leaf 24 4), (4, 48, 16, .leaf 23 4), (4, 248, 4, .leaf 22 6), (4, 32, 16, .leaf 21 4), (4, 16, 16, .leaf 20 4), (4, 0, 16, .leaf 19 4), (3, 240, 16, .leaf 18 4), (3, 224, 16, .leaf 17 4), (3, 208, 16, .leaf 16 4), (3, 192, 16, .leaf 15 4), (3, 176, 16, .leaf 14 4), (4, 244, 4, .leaf 13 6), (3, 160, 16, .leaf 12 4), (3, 144, 16, .leaf 11 4), (4, 240, 4, .leaf 10 6), (2, 255, 1, .inner 4), (2, 234, 1, .leaf 9 8), (3, 128, 16, .leaf 8 4), (3, 112, 16, .leaf 7 4), (3, 96, 16, .leaf 6 4), (3, 80, 16, .leaf 5 4), (3, 64, 16, .leaf 4 4), (3, 48, 16, .leaf 3 4), (3, 32, 16, .leaf 2 4), (2, 254, 1, .inner 3), (2, 176, 2, .leaf 1 7), (1, 255, 1, .inner 2), (1, 192, 8, .leaf 0 5), (0, 255, 1, .inner 1)]

theorem finalIs : tbAt 256 = some ⟨15, finalL⟩ := by decide +kernel

theorem tbAt_some {s : Nat} (h : s ≤ 256) : ∃ t, tbAt s = some t := by
  have key : ∀ d, d ≤ 256 → ∃ t, tbAt (256 - d) = some t := by
    intro d
    induction d with
    | zero => intro _; exact ⟨_, finalIs⟩
    | succ d ih =>
      intro hd
      obtain ⟨t, ht⟩ := ih (by omega)
      have e : 256 - d = (256 - (d + 1)) + 1 := by omega
      rw [e, tbAt] at ht
      cases hx : tbAt (256 - (d + 1)) with
      | some t' => exact ⟨t', rfl⟩
      | none => rw [hx] at ht; cases ht
  have := key (256 - s) (by omega)
  rwa [show 256 - (256 - s) = s by omega] at this
end Go.Proofs.YtmlnmllnlekcgaaDoor.HP
/-
  PLAIN: the decoder of Huffman codes over that tree: it undoes encoding, and encoding undoes it.
-/
namespace Go.Proofs.YtmlnmllnlekcgaaDoor.HP

def tab (k i : Nat) : Ent := lookL finalL k i

/-- The bytes on the way to a node. -/
def pathL : List (List Nat) := [[], [255], [255, 255], [255, 255, 254], [255, 255, 255], [254], [255, 254], [255, 255, 248], [255, 255, 246], [255, 255, 249], [255, 255, 251], [255, 255, 252], [255, 255, 250], [255, 255, 247], [255, 255, 253]]
def pl (k : Nat) : Nat := 8 * (pathL.getD k []).length
def pv (k : Nat) : Nat := (pathL.getD k []).foldl (fun a b => 256 * a + b) 0
/-- The bits on the way to a node. -/
def pbits (k : Nat) : List Bool := bitsOf (pl k) (pv k)

def okEvent : Nat × Nat × Nat × Ent → Bool
  | (k, st, c, .leaf s cl) => decide (k < 15) && decide (s < 256) && decide (1 ≤ cl) && decide (cl ≤ 8) && hlen s == pl k + cl && hcode s / 2 ^ cl == pv k && st == hcode s % 2 ^ cl * 2 ^ (8 - cl) && c == 2 ^ (8 - cl)
  | (k, st, c, .inner k') => decide (k < 15) && decide (k' < 15) && decide (st < 256) && c == 1 && pl k' == pl k + 8 && pv k' == pv k * 256 + st
  | (_, _, _, .none) => false

theorem events_ok : finalL.all okEvent = true := by decide +kernel
/-- The events of a row stand one behind the other from place pos on. -/
def chain (l : Log) : Nat → Nat → Nat → Nat
  | 0, _, pos => pos
  | f + 1, k, pos =>
    match l.find? fun e => e.1 == k && e.2.1 == pos with
    | some e => chain l f k (pos + e.2.2.1)
    | none => pos

theorem chains : ((List.range 15).all fun k => chain finalL 256 k 0 == if k == 4 then 252 else 256) = true := by decide +kernel

def numComp (l v l' v' : Nat) : Bool := if l ≤ l' then v' / 2 ^ (l' - l) == v else v / 2 ^ (l - l') == v'
theorem nones : ((List.range 256).all fun c => [252, 253, 254, 255].all fun i => !(numComp (pl 4 + 8) (pv 4 * 256 + i) (hlen c) (hcode c))) = true := by decide +kernel
theorem no_code_on_paths : ((List.range 256).all fun c => (List.range 15).all fun k => !(decide (hlen c ≤ pl k) && hcode c == pv k / 2 ^ (pl k - hlen c))) = true := by decide +kernel

def codePairs : List (Nat × Nat) := lensL.zip codesL
theorem prefix_free_num : codePairs.Pairwise fun a b => numComp a.1 a.2 b.1 b.2 = false := by decide +kernel
theorem code_bounds : ((List.range 256).all fun c => decide (5 ≤ hlen c) && decide (hlen c ≤ 30) && decide (hcode c < 2 ^ hlen c)) = true := by decide +kernel

end Go.Proofs.YtmlnmllnlekcgaaDoor.HP
/-
  PLAIN: decoding Huffman codes undoes encoding, and encoding undoes decoding.
-/
namespace Go.Proofs.YtmlnmllnlekcgaaDoor.HP

/-! ### what the tree's entries say -/
theorem lookL_mem {l : Log} {k i : Nat} {e : Ent} (h : lookL l k i = e) (he : e ≠ .none) : ∃ st c, (k, st, c, e) ∈ l ∧ st ≤ i ∧ i < st + c := by
  induction l with
  | nil => exact absurd h.symm he
  | cons x l ih =>
    obtain ⟨k', st, c, e'⟩ := x
    unfold lookL at h
    split at h
    · rename_i hc
      obtain ⟨rfl, h1, h2⟩ := hc
      subst h
      exact ⟨st, c, by simp, h1, h2⟩
    · obtain ⟨st', c', hm, h1, h2⟩ := ih h
      exact ⟨st', c', List.mem_cons_of_mem _ hm, h1, h2⟩

theorem length_pbits (k : Nat) : (pbits k).length = pl k := length_bitsOf _ _
theorem pbits_zero : pbits 0 = [] := rfl
theorem pl_zero : pl 0 = 0 := rfl

theorem pv_lt : ∀ k, k < 15 → pv k < 2 ^ pl k := by decide
theorem pl_pos : ∀ k, k < 15 → pl k < 8 → k = 0 := by decide

theorem event_of {k i : Nat} {e : Ent} (h : tab k i = e) (he : e ≠ .none) : ∃ st c, okEvent (k, st, c, e) = true ∧ st ≤ i ∧ i < st + c := by
  obtain ⟨st, c, hm, h1, h2⟩ := lookL_mem h he
  exact ⟨st, c, List.all_eq_true.1 events_ok _ hm, h1, h2⟩

theorem take_bitsOf {m n : Nat} (c : Nat) : (bitsOf (m + n) c).take m = bitsOf m (c / 2 ^ n) := by
  rw [bitsOf_add]
  exact List.take_left' (length_bitsOf _ _)

theorem leaf_ok {k i s cl : Nat} (h : tab k i = .leaf s cl) : s < 256 ∧ 1 ≤ cl ∧ cl ≤ 8 ∧ k < 15 ∧ hlen s = pl k + cl ∧ pbits k ++ (bitsOf 8 i).take cl = bitsOf (hlen s) (hcode s) := by
  obtain ⟨st, c, ho, h1, h2⟩ := event_of h (by simp)
  simp only [okEvent, Bool.and_eq_true, decide_eq_true_eq, beq_iff_eq] at ho
  obtain ⟨⟨⟨⟨⟨⟨⟨hk, hs⟩, hc1⟩, hc8⟩, hl⟩, hp⟩, hst⟩, hc⟩ := ho
  refine ⟨hs, hc1, hc8, hk, hl, ?_⟩
  have hi : i / 2 ^ (8 - cl) = hcode s % 2 ^ cl := by
    have hpos : 0 < 2 ^ (8 - cl) := Nat.two_pow_pos _
    rw [hst] at h1 h2
    rw [hc] at h2
    apply Nat.div_eq_of_lt_le
    · exact h1
    · rw [Nat.add_mul, Nat.one_mul]; exact h2
  rw [hl, bitsOf_add, hp, ← bitsOf_mod cl (hcode s), ← hi]
  have e8 : cl + (8 - cl) = 8 := by omega
  have := take_bitsOf (m := cl) (n := 8 - cl) i
  rw [e8] at this
  rw [this]
  rfl

theorem inner_ok {k i k' : Nat} (h : tab k i = .inner k') : i < 256 ∧ k' < 15 ∧ k < 15 ∧ pl k' = pl k + 8 ∧ pbits k' = pbits k ++ bitsOf 8 i := by
  obtain ⟨st, c, ho, h1, h2⟩ := event_of h (by simp)
  simp only [okEvent, Bool.and_eq_true, decide_eq_true_eq, beq_iff_eq] at ho
  obtain ⟨⟨⟨⟨⟨hk, hk'⟩, hst⟩, hc⟩, hl⟩, hp⟩ := ho
  have hi : i = st := by omega
  subst hi
  refine ⟨hst, hk', hk, hl, ?_⟩
  rw [pbits, hl, hp, bitsOf_add]
  have e1 : (pv k * 256 + i) / 2 ^ 8 = pv k := by omega
  have e2 : bitsOf 8 (pv k * 256 + i) = bitsOf 8 i := by
    rw [← bitsOf_mod 8 (pv k * 256 + i), ← bitsOf_mod 8 i]; congr 1; omega
  rw [e1, e2]
  rfl

theorem chain_cov {k : Nat} : ∀ (f pos i : Nat), pos ≤ i → i < chain finalL f k pos → tab k i ≠ .none := by
  intro f
  induction f with
  | zero => intro pos i h1 h2; simp [chain] at h2; omega
  | succ f ih =>
    intro pos i h1 h2
    unfold chain at h2
    split at h2
    · rename_i e he
      by_cases hlt : i < pos + e.2.2.1
      · have hm := List.mem_of_find?_eq_some he
        have hp := List.find?_some he
        simp only [Bool.and_eq_true, beq_iff_eq] at hp
        have hev := List.all_eq_true.1 events_ok _ hm
        have hne : e.2.2.2 ≠ .none := by
          intro h0; obtain ⟨a, b, c, d⟩ := e; simp only at h0; subst h0; simp [okEvent] at hev
        have : ∀ l : Log, (∀ x ∈ l, okEvent x = true) → e ∈ l → lookL l k i ≠ .none := by
          intro l
          induction l with
          | nil => intro _ h; cases h
          | cons x l ih2 =>
            intro hall hmem
            obtain ⟨k', st, c, e'⟩ := x
            unfold lookL
            split
            · intro h0; have := hall _ List.mem_cons_self; subst h0; simp [okEvent] at this
            · rename_i hn
              rcases List.mem_cons.1 hmem with rfl | hmem
              · exact absurd ⟨hp.1, by have := hp.2; simp only at this; omega, by have := hp.2; simp only at this hlt; omega⟩ hn
              · exact ih2 (fun x hx => hall x (List.mem_cons_of_mem _ hx)) hmem
        exact this finalL (List.all_eq_true.1 events_ok) hm
      · exact ih _ i (by omega) h2
    · omega

theorem none_ok {k i : Nat} (hk : k < 15) (hi : i < 256) (h : tab k i = .none) : k = 4 ∧ 252 ≤ i := by
  have hc := List.all_eq_true.1 chains k (by simp [hk])
  simp only [beq_iff_eq] at hc
  by_cases h4 : k = 4
  · refine ⟨h4, ?_⟩
    rw [if_pos (by simp [h4])] at hc
    rcases Nat.lt_or_ge i 252 with hlt | hge
    · exact absurd h (chain_cov 256 0 i (Nat.zero_le _) (by rw [hc]; exact hlt))
    · exact hge
  · rw [if_neg (by simp [h4])] at hc
    exact absurd h (chain_cov 256 0 i (Nat.zero_le _) (by rw [hc]; exact hi))

/-! ### prefixes, by numbers -/
theorem bitsOf_inj {n a b : Nat} (ha : a < 2 ^ n) (hb : b < 2 ^ n) (h : bitsOf n a = bitsOf n b) : a = b := by
  have := congrArg ofBits h
  rwa [ofBits_bitsOf, ofBits_bitsOf, Nat.mod_eq_of_lt ha, Nat.mod_eq_of_lt hb] at this

theorem prefix_num {l v l' v' : Nat} (hv : v < 2 ^ l) (hv' : v' < 2 ^ l') (h : bitsOf l v <+: bitsOf l' v') : l ≤ l' ∧ v' / 2 ^ (l' - l) = v := by
  have hl : l ≤ l' := by have := h.length_le; simpa [length_bitsOf] using this
  refine ⟨hl, ?_⟩
  have e : l' = l + (l' - l) := by omega
  have h2 : bitsOf l v = (bitsOf l' v').take l := by
    rw [List.prefix_iff_eq_take, length_bitsOf] at h; exact h
  rw [e, take_bitsOf] at h2
  refine (bitsOf_inj hv ?_ h2).symm
  rw [Nat.div_lt_iff_lt_mul (Nat.two_pow_pos _), ← Nat.pow_add, ← e]
  exact hv'

theorem prefix_or {α : Type} {a b S : List α} (ha : a <+: S) (hb : b <+: S) : a <+: b ∨ b <+: a := by
  rcases Nat.le_total a.length b.length with h | h
  · exact .inl (List.prefix_of_prefix_length_le ha hb h)
  · exact .inr (List.prefix_of_prefix_length_le hb ha h)

theorem numComp_of {l v l' v' : Nat} (hv : v < 2 ^ l) (hv' : v' < 2 ^ l') {S : List Bool} (ha : bitsOf l v <+: S) (hb : bitsOf l' v' <+: S) : numComp l v l' v' = true := by
  unfold numComp
  rcases prefix_or ha hb with h | h
  · obtain ⟨h1, h2⟩ := prefix_num hv hv' h
    rw [if_pos h1]; simpa using h2
  · obtain ⟨h1, h2⟩ := prefix_num hv' hv h
    by_cases h3 : l ≤ l'
    · have : l = l' := by omega
      subst this
      rw [if_pos (Nat.le_refl _)]
      simp at h2 ⊢
      exact h2.symm
    · rw [if_neg h3]; simpa using h2

theorem bounds (c : UInt8) : 5 ≤ hlen c.toNat ∧ hlen c.toNat ≤ 30 ∧ hcode c.toNat < 2 ^ hlen c.toNat := by
  have := List.all_eq_true.1 code_bounds c.toNat (by simpa using c.toNat_lt)
  simpa [and_assoc] using this

theorem getElem_pairs (i : Nat) (h : i < codePairs.length) : codePairs[i] = (hlen i, hcode i) := by
  have hl : i < lensL.length := by simp only [codePairs, List.length_zip] at h; omega
  have hc : i < codesL.length := by simp only [codePairs, List.length_zip] at h; omega
  simp [codePairs, hlen, hcode, hl, hc]

theorem length_pairs : codePairs.length = 256 := by decide +kernel

theorem prefix_free {s t : UInt8} {S : List Bool} (hs : cbits s <+: S) (ht : cbits t <+: S) : s = t := by
  have key : ∀ a b : UInt8, a.toNat < b.toNat → cbits a <+: S → cbits b <+: S → False := by
    intro a b hlt ha hb
    have hp := List.pairwise_iff_getElem.1 prefix_free_num a.toNat b.toNat (by rw [length_pairs]; exact a.toNat_lt) (by rw [length_pairs]; exact b.toNat_lt) hlt
    rw [getElem_pairs, getElem_pairs] at hp
    have := numComp_of (bounds a).2.2 (bounds b).2.2 ha hb
    rw [this] at hp
    cases hp
  rcases Nat.lt_trichotomy s.toNat t.toNat with h | h | h
  · exact (key s t h hs ht).elim
  · exact UInt8.toNat_inj.1 h
  · exact (key t s h ht hs).elim

theorem not_on_path {c : UInt8} {k : Nat} (hk : k < 15) : ¬ cbits c <+: pbits k := by
  intro h
  obtain ⟨h1, h2⟩ := prefix_num (bounds c).2.2 (pv_lt k hk) h
  have := List.all_eq_true.1 (List.all_eq_true.1 no_code_on_paths c.toNat (by simpa using c.toNat_lt)) k (by simp [hk])
  simp [h1, h2] at this

theorem not_none {c : UInt8} {k i : Nat} {S : List Bool} (hk : k < 15) (hi : i < 256) (h1 : pbits k ++ bitsOf 8 i <+: S) (h2 : cbits c <+: S) : tab k i ≠ .none := by
  intro h
  obtain ⟨rfl, h252⟩ := none_ok hk hi h
  have hm : i ∈ [252, 253, 254, 255] := by
    have : i = 252 ∨ i = 253 ∨ i = 254 ∨ i = 255 := by omega
    simpa using this
  have hn := List.all_eq_true.1 (List.all_eq_true.1 nones c.toNat (by simpa using c.toNat_lt)) i hm
  have e : pbits 4 ++ bitsOf 8 i = bitsOf (pl 4 + 8) (pv 4 * 256 + i) := by
    rw [bitsOf_add]
    have e1 : (pv 4 * 256 + i) / 2 ^ 8 = pv 4 := by omega
    have e2 : bitsOf 8 (pv 4 * 256 + i) = bitsOf 8 i := by
      rw [← bitsOf_mod 8 (pv 4 * 256 + i), ← bitsOf_mod 8 i]; congr 1; omega
    rw [e1, e2]; rfl
  rw [e] at h1
  have hb : pv 4 * 256 + i < 2 ^ (pl 4 + 8) := by
    have := pv_lt 4 (by omega)
    rw [Nat.pow_add]; omega
  have := numComp_of hb (bounds c).2.2 h1 h2
  simp [this] at hn

/-- Where a code stands ahead, the entry is its symbol's, or a node further on its way. -/
theorem entry_of {c : UInt8} {k i : Nat} {S : List Bool} (hk : k < 15) (hi : i < 256) (h1 : pbits k ++ bitsOf 8 i <+: S) (h2 : cbits c <+: S) :
    (∃ k', tab k i = .inner k') ∨ (∃ cl, tab k i = .leaf c.toNat cl) := by
  cases h : tab k i with
  | none => exact absurd h (not_none hk hi h1 h2)
  | inner k' => exact .inl ⟨k', rfl⟩
  | leaf s cl =>
    right
    obtain ⟨hs, _, _, _, _, hb⟩ := leaf_ok h
    have hsc : cbits (UInt8.ofNat s) = bitsOf (hlen s) (hcode s) := by
      unfold cbits; rw [UInt8.toNat_ofNat', Nat.mod_eq_of_lt hs]
    have hp : cbits (UInt8.ofNat s) <+: S := by
      rw [hsc, ← hb]
      exact List.IsPrefix.trans (by rw [List.prefix_append_right_inj]; exact List.take_prefix _ _) h1
    have := prefix_free hp h2
    refine ⟨cl, ?_⟩
    rw [← this, UInt8.toNat_ofNat', Nat.mod_eq_of_lt hs]

/-! ### the decoder -/
structure HS where
  k : Nat
  q : List Bool
  out : List UInt8

def feed : Nat → HS → Option HS
  | 0, st => some st
  | f + 1, st =>
    if st.q.length < 8 then some st
    else
      match tab st.k (ofBits (st.q.take 8)) with
      | .none => none
      | .leaf s cl => feed f ⟨0, st.q.drop cl, st.out ++ [UInt8.ofNat s]⟩
      | .inner k' => feed f ⟨k', st.q.drop 8, st.out⟩

def feedAll : List UInt8 → HS → Option HS
  | [], st => some st
  | b :: v, st =>
    match feed (st.q.length + 8) ⟨st.k, st.q ++ bits8 b, st.out⟩ with
    | none => none
    | some st' => feedAll v st'

def fin : Nat → HS → Option HS
  | 0, st => some st
  | f + 1, st =>
    if st.q = [] then some st
    else
      match tab st.k (ofBits (st.q ++ List.replicate (8 - st.q.length) false)) with
      | .none => none
      | .inner _ => some st
      | .leaf s cl => if st.q.length < cl then some st else fin f ⟨0, st.q.drop cl, st.out ++ [UInt8.ofNat s]⟩

/-- The text of codes, if they are one. -/
def hdec (v : List UInt8) : Option (List UInt8) :=
  match feedAll v ⟨0, [], []⟩ with
  | none => none
  | some st =>
    match fin st.q.length st with
    | none => none
    | some st' => if 7 < pl st'.k + st'.q.length then none else if st'.q.all id then some st'.out else none

/-! ### what a run has read -/
def HS.bits (st : HS) : List Bool := tbits st.out ++ pbits st.k ++ st.q

theorem take8 {q : List Bool} (h : ¬ q.length < 8) : bitsOf 8 (ofBits (q.take 8)) = q.take 8 := by
  have hl : (q.take 8).length = 8 := by simp; omega
  have := bitsOf_ofBits (q.take 8)
  rwa [hl] at this

theorem ofBits8_lt {q : List Bool} (h : ¬ q.length < 8) : ofBits (q.take 8) < 256 := by
  have hl : (q.take 8).length = 8 := by simp; omega
  have := ofBits_lt (q.take 8)
  rwa [hl] at this

theorem cbits_ofNat {s : Nat} (hs : s < 256) : cbits (UInt8.ofNat s) = bitsOf (hlen s) (hcode s) := by
  unfold cbits; rw [UInt8.toNat_ofNat', Nat.mod_eq_of_lt hs]

theorem feed_bits : ∀ (f : Nat) (st st' : HS), st.k < 15 → feed f st = some st' → st'.bits = st.bits ∧ st'.k < 15 := by
  intro f
  induction f with
  | zero => intro st st' hk h; simp [feed] at h; subst h; exact ⟨rfl, hk⟩
  | succ f ih =>
    intro st st' hk h
    unfold feed at h
    split at h
    · simp at h; subst h; exact ⟨rfl, hk⟩
    · rename_i hq
      split at h
      · cases h
      · rename_i s cl ht
        obtain ⟨hs, hc1, hc8, _, hl, hb⟩ := leaf_ok ht
        obtain ⟨h1, h2⟩ := ih _ _ (by show (0 : Nat) < 15; decide) h
        refine ⟨h1.trans ?_, h2⟩
        rw [take8 hq] at hb
        simp only [HS.bits, tbits_append, pbits_zero, List.append_nil, List.append_assoc]
        congr 1
        have : tbits [UInt8.ofNat s] = pbits st.k ++ (st.q.take 8).take cl := by
          simp only [tbits, List.flatMap_cons, List.flatMap_nil, List.append_nil]
          rw [cbits_ofNat hs, ← hb]
        rw [this, List.take_take, Nat.min_eq_left hc8, List.append_assoc, List.take_append_drop]
      · rename_i k' ht
        obtain ⟨_, hk', _, _, hb⟩ := inner_ok ht
        obtain ⟨h1, h2⟩ := ih _ _ hk' h
        refine ⟨h1.trans ?_, h2⟩
        rw [take8 hq] at hb
        simp only [HS.bits, List.append_assoc]
        congr 1
        rw [hb, List.append_assoc, List.take_append_drop]

theorem feedAll_bits : ∀ (v : List UInt8) (st st' : HS), st.k < 15 → feedAll v st = some st' → st'.bits = st.bits ++ unpack v ∧ st'.k < 15 := by
  intro v
  induction v with
  | nil => intro st st' hk h; simp [feedAll] at h; subst h; simp [unpack, hk]
  | cons b v ih =>
    intro st st' hk h
    unfold feedAll at h
    split at h
    · cases h
    · rename_i st1 h1
      obtain ⟨e1, k1⟩ := feed_bits _ ⟨st.k, st.q ++ bits8 b, st.out⟩ _ hk h1
      obtain ⟨e2, k2⟩ := ih _ _ k1 h
      refine ⟨?_, k2⟩
      rw [e2, e1, unpack_cons]
      simp [HS.bits]

theorem pad8 {q : List Bool} (h : q.length ≤ 8) : bitsOf 8 (ofBits (q ++ List.replicate (8 - q.length) false)) = q ++ List.replicate (8 - q.length) false := by
  have hl : (q ++ List.replicate (8 - q.length) false).length = 8 := by simp; omega
  have := bitsOf_ofBits (q ++ List.replicate (8 - q.length) false)
  rwa [hl] at this

theorem fin_bits : ∀ (f : Nat) (st st' : HS), st.k < 15 → st.q.length ≤ 8 → fin f st = some st' → st'.bits = st.bits ∧ st'.k < 15 := by
  intro f
  induction f with
  | zero => intro st st' hk _ h; simp [fin] at h; subst h; exact ⟨rfl, hk⟩
  | succ f ih =>
    intro st st' hk hq8 h
    unfold fin at h
    split at h
    · simp at h; subst h; exact ⟨rfl, hk⟩
    · split at h
      · cases h
      · simp at h; subst h; exact ⟨rfl, hk⟩
      · rename_i s cl ht
        split at h
        · simp at h; subst h; exact ⟨rfl, hk⟩
        · rename_i hcl
          obtain ⟨hs, hc1, hc8, _, hl, hb⟩ := leaf_ok ht
          obtain ⟨h1, h2⟩ := ih _ _ (by show (0 : Nat) < 15; decide) (by simp; omega) h
          refine ⟨h1.trans ?_, h2⟩
          rw [pad8 hq8, List.take_append_of_le_length (by omega)] at hb
          simp only [HS.bits, tbits_append, pbits_zero, List.append_nil, List.append_assoc]
          congr 1
          have : tbits [UInt8.ofNat s] = pbits st.k ++ st.q.take cl := by
            simp only [tbits, List.flatMap_cons, List.flatMap_nil, List.append_nil]
            rw [cbits_ofNat hs, ← hb]
          rw [this, List.append_assoc, List.take_append_drop]

/-! ### feed comes to fewer than eight bits -/
theorem feed_short : ∀ (f : Nat) (st st' : HS), st.q.length ≤ f + 7 → feed f st = some st' → st'.q.length < 8 := by
  intro f
  induction f with
  | zero => intro st st' hf h; simp [feed] at h; subst h; omega
  | succ f ih =>
    intro st st' hf h
    unfold feed at h
    split at h
    · simp at h; subst h; assumption
    · split at h
      · cases h
      · rename_i s cl ht
        obtain ⟨_, hc1, _, _, _, _⟩ := leaf_ok ht
        exact ih _ _ (by simp; omega) h
      · exact ih _ _ (by simp; omega) h

theorem feedAll_short : ∀ (v : List UInt8) (st st' : HS), st.q.length < 8 → feedAll v st = some st' → st'.q.length < 8 := by
  intro v
  induction v with
  | nil => intro st st' hq h; simp [feedAll] at h; subst h; exact hq
  | cons b v ih =>
    intro st st' hq h
    unfold feedAll at h
    split at h
    · cases h
    · rename_i st1 h1
      exact ih _ _ (feed_short _ _ _ (by simp [length_bits8]) h1) h

/-- ENCODING UNDOES DECODING: codes that are not refused are their text's. -/
theorem henc_hdec {v t : List UInt8} (h : hdec v = some t) : henc t = v := by
  unfold hdec at h
  split at h
  · cases h
  · rename_i st h1
    split at h
    · cases h
    · rename_i st' h2
      split at h
      · cases h
      · rename_i h7
        split at h
        · rename_i hall
          simp at h
          subst h
          obtain ⟨e1, k1⟩ := feedAll_bits _ _ _ (by show (0 : Nat) < 15; decide) h1
          have s1 := feedAll_short _ _ _ (by show (0 : Nat) < 8; decide) h1
          obtain ⟨e2, k2⟩ := fin_bits _ _ _ k1 (by omega) h2
          have hk : st'.k = 0 := pl_pos _ k2 (by omega)
          have hb : tbits st'.out ++ st'.q = unpack v := by
            have := e2.trans e1
            simpa [HS.bits, hk, pbits_zero, tbits] using this
          have hq : st'.q = List.replicate st'.q.length true := by
            apply List.eq_replicate_iff.2
            exact ⟨rfl, fun b hb => by simpa using List.all_eq_true.1 hall b hb⟩
          have hlen : st'.q.length = padOf (tbits st'.out).length := by
            have := congrArg List.length hb
            rw [List.length_append, length_unpack] at this
            unfold padOf
            omega
          rw [henc, ← hlen, ← hq, hb, pack_unpack]
        · cases h

/-! ### decoding undoes encoding -/
/-- What is ahead: the codes of a text and then fewer than eight ones. -/
structure Ahead (st : HS) (rest : List Bool) (t : List UInt8) (p : Nat) : Prop where
  p8 : p < 8
  k15 : st.k < 15
  eq : pbits st.k ++ st.q ++ rest = tbits t ++ List.replicate p true

theorem Ahead.some_code {st : HS} {rest : List Bool} {p : Nat} (h : Ahead st rest [] p) : st.k = 0 ∧ st.q.length ≤ p ∧ st.q = List.replicate st.q.length true := by
  have hl := congrArg List.length h.eq
  simp [tbits, length_pbits] at hl
  have hk : st.k = 0 := pl_pos _ h.k15 (by have := h.p8; omega)
  refine ⟨hk, by omega, ?_⟩
  have he := h.eq
  simp only [hk, pbits_zero, List.nil_append, tbits, List.flatMap_nil] at he
  have : st.q <+: List.replicate p true := ⟨rest, he⟩
  apply List.eq_replicate_iff.2
  refine ⟨rfl, fun b hb => ?_⟩
  have := this.subset hb
  exact (List.mem_replicate.1 this).2

theorem feed_code : ∀ (f : Nat) (st : HS) (rest : List Bool) (t : List UInt8) (p : Nat), Ahead st rest t p →
    ∃ st' t', feed f st = some st' ∧ Ahead st' rest t' p ∧ st'.out ++ t' = st.out ++ t := by
  intro f
  induction f with
  | zero => intro st rest t p h; exact ⟨st, t, rfl, h, rfl⟩
  | succ f ih =>
    intro st rest t p h
    unfold feed
    by_cases hq : st.q.length < 8
    · rw [if_pos hq]; exact ⟨st, t, rfl, h, rfl⟩
    · rw [if_neg hq]
      cases t with
      | nil => have := h.some_code; have := h.p8; omega
      | cons c t =>
        have hS1 : pbits st.k ++ bitsOf 8 (ofBits (st.q.take 8)) <+: tbits (c :: t) ++ List.replicate p true := by
          rw [← h.eq, take8 hq]
          exact ⟨st.q.drop 8 ++ rest, by rw [List.append_assoc, ← List.append_assoc (st.q.take 8), List.take_append_drop, List.append_assoc]⟩
        have hS2 : cbits c <+: tbits (c :: t) ++ List.replicate p true := ⟨tbits t ++ List.replicate p true, by rw [tbits_cons, List.append_assoc]⟩
        rcases entry_of h.k15 (ofBits8_lt hq) hS1 hS2 with ⟨k', ht⟩ | ⟨cl, ht⟩
        · rw [ht]
          obtain ⟨_, hk', _, _, hb⟩ := inner_ok ht
          obtain ⟨st', t', h1, h2, h3⟩ := ih ⟨k', st.q.drop 8, st.out⟩ rest (c :: t) p ⟨h.p8, hk', by
            show pbits k' ++ st.q.drop 8 ++ rest = _
            rw [hb, take8 hq, ← h.eq, List.append_assoc (pbits st.k), List.take_append_drop]⟩
          exact ⟨st', t', h1, h2, h3⟩
        · rw [ht]
          obtain ⟨hs, hc1, hc8, _, hl, hb⟩ := leaf_ok ht
          rw [take8 hq] at hb
          have hcc : bitsOf (hlen c.toNat) (hcode c.toNat) = cbits c := rfl
          obtain ⟨st', t', h1, h2, h3⟩ := ih ⟨0, st.q.drop cl, st.out ++ [UInt8.ofNat c.toNat]⟩ rest t p ⟨h.p8, by show (0 : Nat) < 15; decide, by
            show pbits 0 ++ st.q.drop cl ++ rest = _
            have he := h.eq
            rw [tbits_cons, ← hcc, ← hb, List.take_take, Nat.min_eq_left hc8] at he
            rw [pbits_zero, List.nil_append]
            have : pbits st.k ++ st.q ++ rest = pbits st.k ++ st.q.take cl ++ (st.q.drop cl ++ rest) := by
              rw [List.append_assoc, List.append_assoc, ← List.append_assoc (st.q.take cl), List.take_append_drop]
            rw [this, List.append_assoc _ (tbits t)] at he
            exact List.append_cancel_left he⟩
          refine ⟨st', t', h1, h2, ?_⟩
          rw [h3]
          simp

theorem feedAll_code : ∀ (v : List UInt8) (st : HS) (t : List UInt8) (p : Nat), Ahead st (unpack v) t p →
    ∃ st' t', feedAll v st = some st' ∧ Ahead st' [] t' p ∧ st'.out ++ t' = st.out ++ t := by
  intro v
  induction v with
  | nil => intro st t p h; exact ⟨st, t, rfl, h, rfl⟩
  | cons b v ih =>
    intro st t p h
    unfold feedAll
    obtain ⟨st1, t1, h1, h2, h3⟩ := feed_code (st.q.length + 8) ⟨st.k, st.q ++ bits8 b, st.out⟩ (unpack v) t p ⟨h.p8, h.k15, by
      show pbits st.k ++ (st.q ++ bits8 b) ++ unpack v = _
      rw [← h.eq, unpack_cons]; simp [List.append_assoc]⟩
    rw [h1]
    obtain ⟨st', t', h4, h5, h6⟩ := ih st1 t1 p h2
    exact ⟨st', t', h4, h5, h6.trans h3⟩

def padStops : Nat → Bool
  | m => match tab 0 (ofBits (List.replicate m true ++ List.replicate (8 - m) false)) with
    | .none => false
    | .inner _ => true
    | .leaf _ cl => decide (m < cl)
theorem padStops_all : ((List.range 8).all fun m => m == 0 || padStops m) = true := by decide +kernel

theorem fin_code : ∀ (f : Nat) (st : HS) (t : List UInt8) (p : Nat), st.q.length ≤ f → st.q.length < 8 → Ahead st [] t p →
    ∃ st', fin f st = some st' ∧ st'.k = 0 ∧ st'.q.length < 8 ∧ st'.q = List.replicate st'.q.length true ∧ st'.out = st.out ++ t := by
  intro f
  induction f with
  | zero =>
    intro st t p hf _ h
    have hq : st.q = [] := List.eq_nil_of_length_eq_zero (by omega)
    cases t with
    | nil => obtain ⟨hk, _, hr⟩ := h.some_code; exact ⟨st, rfl, hk, by simp [hq], hr, by simp⟩
    | cons c t =>
      have he := h.eq
      rw [hq, tbits_cons] at he
      exact absurd ⟨tbits t ++ List.replicate p true, by rw [← List.append_assoc, ← he]; simp⟩ (not_on_path (c := c) h.k15)
  | succ f ih =>
    intro st t p hf hq8 h
    unfold fin
    by_cases hq : st.q = []
    · rw [if_pos hq]
      cases t with
      | nil => obtain ⟨hk, _, hr⟩ := h.some_code; exact ⟨st, rfl, hk, by simp [hq], hr, by simp⟩
      | cons c t =>
        have he := h.eq
        rw [hq, tbits_cons] at he
        exact absurd ⟨tbits t ++ List.replicate p true, by rw [← List.append_assoc, ← he]; simp⟩ (not_on_path (c := c) h.k15)
    · rw [if_neg hq]
      cases t with
      | nil =>
        obtain ⟨hk, hlp, hr⟩ := h.some_code
        have hstop := List.all_eq_true.1 padStops_all st.q.length (by simp; omega)
        have hne : st.q.length ≠ 0 := fun h0 => hq (List.eq_nil_of_length_eq_zero h0)
        simp only [beq_iff_eq, hne, Bool.or_eq_true, false_or, padStops] at hstop
        rw [← hr] at hstop
        rw [hk]
        cases ht : tab 0 (ofBits (st.q ++ List.replicate (8 - st.q.length) false)) with
        | none => simp [ht] at hstop
        | inner k' => exact ⟨st, rfl, hk, hq8, hr, by simp⟩
        | leaf s cl =>
          simp [ht] at hstop
          simp only [if_pos hstop]
          exact ⟨st, rfl, hk, hq8, hr, by simp⟩
      | cons c t =>
        have he := h.eq
        rw [List.append_nil] at he
        have hS : cbits c <+: pbits st.k ++ st.q := ⟨tbits t ++ List.replicate p true, by rw [he, tbits_cons, List.append_assoc]⟩
        have hS1 : pbits st.k ++ bitsOf 8 (ofBits (st.q ++ List.replicate (8 - st.q.length) false)) <+: pbits st.k ++ (st.q ++ List.replicate (8 - st.q.length) false) := by
          rw [pad8 (by omega)]; exact List.prefix_refl _
        have hS2 : cbits c <+: pbits st.k ++ (st.q ++ List.replicate (8 - st.q.length) false) := hS.trans ⟨List.replicate (8 - st.q.length) false, by simp [List.append_assoc]⟩
        have hlt : ofBits (st.q ++ List.replicate (8 - st.q.length) false) < 256 := by
          have := ofBits_lt (st.q ++ List.replicate (8 - st.q.length) false)
          have hl : (st.q ++ List.replicate (8 - st.q.length) false).length = 8 := by simp; omega
          rwa [hl] at this
        rcases entry_of h.k15 hlt hS1 hS2 with ⟨k', ht⟩ | ⟨cl, ht⟩
        · exfalso
          obtain ⟨_, hk', _, _, hb⟩ := inner_ok ht
          rw [pad8 (by omega)] at hb
          exact not_on_path (c := c) hk' (by rw [hb]; exact hS2)
        · rw [ht]
          obtain ⟨hs, hc1, hc8, _, hl, hb⟩ := leaf_ok ht
          have hle : cl ≤ st.q.length := by
            have := hS.length_le
            simp only [List.length_append, length_pbits] at this
            have h2 : (cbits c).length = hlen c.toNat := length_bitsOf _ _
            omega
          simp only [if_neg (show ¬ st.q.length < cl by omega)]
          rw [pad8 (by omega), List.take_append_of_le_length hle] at hb
          have hcc : bitsOf (hlen c.toNat) (hcode c.toNat) = cbits c := rfl
          obtain ⟨st', h1, h2, h3, h4, h5⟩ := ih ⟨0, st.q.drop cl, st.out ++ [UInt8.ofNat c.toNat]⟩ t p (by simp; omega) (by simp; omega) ⟨h.p8, by show (0 : Nat) < 15; decide, by
            show pbits 0 ++ st.q.drop cl ++ [] = _
            rw [tbits_cons, ← hcc, ← hb] at he
            rw [pbits_zero, List.nil_append, List.append_nil]
            have : pbits st.k ++ st.q = pbits st.k ++ st.q.take cl ++ st.q.drop cl := by simp [List.append_assoc]
            rw [this, List.append_assoc _ (tbits t)] at he
            exact List.append_cancel_left he⟩
          refine ⟨st', h1, h2, h3, h4, ?_⟩
          rw [h5]
          simp

/-- DECODING UNDOES ENCODING: a text comes back from its codes. -/
theorem hdec_henc (t : List UInt8) : hdec (henc t) = some t := by
  have hp : padOf (tbits t).length < 8 := by unfold padOf; omega
  obtain ⟨st, t', h1, h2, h3⟩ := feedAll_code (henc t) ⟨0, [], []⟩ t _ ⟨hp, by show (0 : Nat) < 15; decide, by
    show pbits 0 ++ [] ++ unpack (henc t) = _
    rw [unpack_henc]; rfl⟩
  have hs := feedAll_short _ _ _ (by show (0 : Nat) < 8; decide) h1
  obtain ⟨st', h4, h5, h6, h7, h8⟩ := fin_code st.q.length st t' _ (Nat.le_refl _) hs h2
  unfold hdec
  rw [h1]
  simp only [h4]
  rw [if_neg (by rw [h5, pl_zero]; omega), if_pos, h8, h3]
  · simp
  · rw [h7]; simp

end Go.Proofs.YtmlnmllnlekcgaaDoor.HP
/-
  PLAIN: the decoder of HPACK as a function of lists of bytes, after the program's text. No program in sight.
-/
namespace Go.Proofs.YtmlnmllnlekcgaaDoor.HD

abbrev Bs := List UInt8
/-- A field: its name, its value, whether it must never be indexed. -/
structure Fld where
  name : Bs
  value : Bs
  sens : Bool

/-! ### integers -/
/-- What reading an integer gives: more is needed; it is too great; a number and what stands behind it. -/
inductive VI where
  | more
  | over
  | ok (i : Nat) (rest : Bs)

def vcont : Bs → Nat → Nat → VI
  | [], _, _ => .more
  | b :: p, i, m =>
    if b.toNat < 128 then .ok (i + b.toNat % 128 * 2 ^ m) p
    else if 63 ≤ m + 7 then .over
    else vcont p (i + b.toNat % 128 * 2 ^ m) (m + 7)

def rvi (n : Nat) : Bs → VI
  | [] => .more
  | b :: p => if b.toNat % 2 ^ n < 2 ^ n - 1 then .ok (b.toNat % 2 ^ n) p else vcont p (2 ^ n - 1) 0

theorem vcont_len : ∀ {p : Bs} {i m j : Nat} {r : Bs}, vcont p i m = .ok j r → r.length < p.length
  | [], i, m, j, r, h => by cases h
  | b :: p, i, m, j, r, h => by
    rw [vcont] at h
    split at h
    · injection h with _ h2; subst h2; simp
    · split at h
      · cases h
      · have := vcont_len h; simp; omega
theorem rvi_len {n : Nat} {p : Bs} {j : Nat} {r : Bs} (h : rvi n p = .ok j r) : r.length < p.length := by
  cases p with
  | nil => cases h
  | cons b p =>
    rw [rvi] at h
    split at h
    · injection h with _ h2; subst h2; simp
    · have := vcont_len h; simp; omega
theorem vcont_lt : ∀ {p : Bs} {i k j : Nat} {r : Bs}, vcont p i (7 * k) = .ok j r → i < 255 + 2 ^ (7 * k) → k ≤ 8 → j < 255 + 2 ^ 63
  | [], i, m, j, r, h, _, _ => by cases h
  | b :: p, i, k, j, r, h, hi, hk => by
    have hb : b.toNat % 128 * 2 ^ (7 * k) ≤ 127 * 2 ^ (7 * k) := Nat.mul_le_mul_right _ (by omega)
    have e : 2 ^ (7 * (k + 1)) = 128 * 2 ^ (7 * k) := by rw [Nat.mul_add, Nat.pow_add, Nat.mul_comm]
    have hp : 2 ^ (7 * (k + 1)) ≤ 2 ^ 63 := Nat.pow_le_pow_right (by decide) (by omega)
    rw [vcont] at h
    split at h
    · injection h with h1 _; omega
    · split at h
      · cases h
      · rename_i h2
        rw [show 7 * k + 7 = 7 * (k + 1) by omega] at h
        exact vcont_lt h (by omega) (by omega)
theorem rvi_lt {n : Nat} (hn : n ≤ 7) {p : Bs} {j : Nat} {r : Bs} (h : rvi n p = .ok j r) : j < 255 + 2 ^ 63 := by
  have hq : 2 ^ n ≤ 2 ^ 7 := Nat.pow_le_pow_right (by decide) hn
  cases p with
  | nil => cases h
  | cons b p =>
    rw [rvi] at h
    split at h
    · injection h with h1 _
      have : 0 < 2 ^ 63 := by decide
      omega
    · exact vcont_lt (k := 0) (by simpa using h) (by omega) (by omega)

/-! ### texts -/
inductive RS where
  | more
  | over
  | ok (huff : Bool) (b rest : Bs)

def rstr : Bs → RS
  | [] => .more
  | c :: p =>
    match rvi 7 (c :: p) with
    | .more => .more
    | .over => .over
    | .ok n rest => if rest.length < n then .more else .ok (decide (128 ≤ c.toNat)) (rest.take n) (rest.drop n)

/-- The text of a literal that was read. -/
def dstr (huff : Bool) (b : Bs) : Option Bs := if huff then HP.hdec b else some b

/-! ### tables -/
def esize (e : Bs × Bs) : Nat := e.1.length + e.2.length + 32
def tsize (l : List (Bs × Bs)) : Nat := (l.map esize).sum
/-- The dynamic table, the oldest entry first; how large it may be; the most that may be told. -/
structure Tab where
  ents : List (Bs × Bs)
  max : Nat
  allowed : Nat

/-- The oldest entries go until the table has at most so much. -/
def evict (max : Nat) : List (Bs × Bs) → List (Bs × Bs)
  | [] => []
  | e :: l => if max < tsize (e :: l) then evict max l else e :: l
def Tab.resize (t : Tab) (n : Nat) : Tab := { t with ents := evict n t.ents, max := n }
def Tab.add (t : Tab) (e : Bs × Bs) : Tab := { t with ents := evict t.max (t.ents ++ [e]) }

theorem tsize_cons (e : Bs × Bs) (l : List (Bs × Bs)) : tsize (e :: l) = esize e + tsize l := by simp [tsize]
theorem tsize_append (a b : List (Bs × Bs)) : tsize (a ++ b) = tsize a + tsize b := by simp [tsize]
theorem evict_le (max : Nat) : ∀ l, tsize (evict max l) ≤ max
  | [] => by simp [evict, tsize]
  | e :: l => by
    rw [evict]
    split
    · exact evict_le max l
    · omega
theorem evict_drop (max : Nat) : ∀ l, ∃ n, n ≤ l.length ∧ evict max l = l.drop n
  | [] => ⟨0, by simp, rfl⟩
  | e :: l => by
    rw [evict]
    split
    · obtain ⟨n, hn, h⟩ := evict_drop max l
      exact ⟨n + 1, by simp; omega, by simp [h]⟩
    · exact ⟨0, by simp, rfl⟩

end Go.Proofs.YtmlnmllnlekcgaaDoor.HD
/-
  A map that the program has made, known entry by entry: what a look-up finds, what a store and a deletion leave. Over any program; keys: strings, and pairs of strings.
-/
namespace Go.Proofs.YtmlnmllnlekcgaaDoor
open Go.ChangeShapes Go.WideShapes Go.ChangeAt Go.RowKit

section plain
variable {K : Type} [DecidableEq K]
def mget (l : List (K × Nat)) (k : K) : Option Nat := (l.find? fun p => decide (p.1 = k)).map (·.2)
def mput (l : List (K × Nat)) (k : K) (v : Nat) : List (K × Nat) := if k ∈ l.map (·.1) then l.map (fun p => if p.1 = k then (p.1, v) else p) else l ++ [(k, v)]
def mdel (l : List (K × Nat)) (k : K) : List (K × Nat) := l.filter fun p => decide (p.1 ≠ k)
/-- The first entry of a key: its place. -/
def mfind (l : List (K × Nat)) (k : K) : Nat → Option (Nat × Nat)
  := match l with
  | [] => fun _ => none
  | p :: l => fun i => if p.1 = k then some (i, p.2) else mfind l k (i + 1)

theorem mfind_get (l : List (K × Nat)) (k : K) : ∀ i, (mfind l k i).map (·.2) = mget l k := by
  induction l with
  | nil => intro i; rfl
  | cons p l ih =>
    intro i
    simp only [mfind, mget, List.find?_cons]
    by_cases h : p.1 = k
    · simp [h]
    · simp [h]
      have := ih (i + 1)
      simpa [mget] using this
theorem mfind_none {l : List (K × Nat)} {k : K} : ∀ {i}, mfind l k i = none → k ∉ l.map (·.1) := by
  induction l with
  | nil => intro i _; simp
  | cons p l ih =>
    intro i h
    simp only [mfind] at h
    by_cases hk : p.1 = k
    · simp [hk] at h
    · simp only [hk, if_false] at h
      have := ih h
      simp only [List.map_cons, List.mem_cons, not_or]
      exact ⟨fun e => hk e.symm, this⟩
theorem mfind_some {l : List (K × Nat)} {k : K} : ∀ {i j v}, mfind l k i = some (j, v) → i ≤ j ∧ l[j - i]? = some (k, v) ∧ ∀ q, q < j - i → ∀ p, l[q]? = some p → p.1 ≠ k := by
  induction l with
  | nil => intro i j v h; simp [mfind] at h
  | cons p l ih =>
    intro i j v h
    simp only [mfind] at h
    by_cases hk : p.1 = k
    · simp only [hk, if_true, Option.some.injEq, Prod.mk.injEq] at h
      obtain ⟨rfl, rfl⟩ := h
      refine ⟨Nat.le_refl _, by simp [← hk], fun q hq => by omega⟩
    · simp only [hk, if_false] at h
      obtain ⟨h1, h2, h3⟩ := ih h
      refine ⟨by omega, ?_, ?_⟩
      · rw [show j - i = (j - (i + 1)) + 1 by omega, List.getElem?_cons_succ]; exact h2
      · intro q hq p' hp'
        rcases q with _ | q
        · simp at hp'; subst hp'; exact hk
        · rw [List.getElem?_cons_succ] at hp'
          exact h3 q (by omega) p' hp'

theorem mput_eq {l : List (K × Nat)} {k : K} {v u j : Nat} (hnd : (l.map (·.1)).Nodup) (h : mfind l k 0 = some (j, u)) : mput l k v = l.modify j fun p => (p.1, v) := by
  obtain ⟨-, h2, h3⟩ := mfind_some h
  have hj : j < l.length := (List.getElem?_eq_some_iff.1 h2).1
  simp only [Nat.sub_zero] at h2 h3
  have hmem : k ∈ l.map (·.1) := List.mem_map.2 ⟨_, List.mem_of_getElem? h2, rfl⟩
  rw [mput, if_pos hmem]
  apply List.ext_getElem?
  intro q
  rw [List.getElem?_map, List.getElem?_modify]
  cases hq : l[q]? with
  | none => by_cases e : j = q <;> simp [e]
  | some p =>
    by_cases e : j = q
    · subst e
      rw [h2] at hq; cases hq
      simp
    · have hne : p.1 ≠ k := by
        intro hk
        have hql : q < l.length := (List.getElem?_eq_some_iff.1 hq).1
        have e1 : (l.map (·.1))[j]'(by simpa using hj) = (l.map (·.1))[q]'(by simpa using hql) := by
          have a1 := (List.getElem?_eq_some_iff.1 h2).2
          have a2 := (List.getElem?_eq_some_iff.1 hq).2
          simp [a1, a2, hk]
        exact e ((List.getElem_inj hnd).1 e1)
      simp [hne, e]
theorem mdel_eq {l : List (K × Nat)} {k : K} {u j : Nat} (hnd : (l.map (·.1)).Nodup) (h : mfind l k 0 = some (j, u)) : mdel l k = l.eraseIdx j := by
  induction l generalizing j with
  | nil => simp [mfind] at h
  | cons p l ih =>
    simp only [mfind] at h
    simp only [List.map_cons, List.nodup_cons] at hnd
    by_cases hk : p.1 = k
    · simp only [hk, if_true, Option.some.injEq, Prod.mk.injEq] at h
      obtain ⟨rfl, rfl⟩ := h
      simp only [mdel, List.eraseIdx_cons_zero, List.filter_cons, hk]
      simp
      intro a b hab e
      subst e
      exact hnd.1 (by rw [hk]; exact List.mem_map.2 ⟨_, hab, rfl⟩)
    · simp only [hk, if_false] at h
      obtain ⟨h1, -, -⟩ := mfind_some h
      obtain ⟨j', rfl⟩ : ∃ j', j = j' + 1 := ⟨j - 1, by omega⟩
      have h' : mfind l k 0 = some (j', u) := by
        have key : ∀ (l : List (K × Nat)) (i j : Nat), mfind l k (i + 1) = some (j + 1, u) → mfind l k i = some (j, u) := by
          intro l
          induction l with
          | nil => intro i j h; simp [mfind] at h
          | cons p l ih =>
            intro i j h
            simp only [mfind] at h ⊢
            by_cases hk : p.1 = k
            · simp only [hk, if_true, Option.some.injEq, Prod.mk.injEq] at h ⊢; exact ⟨by omega, h.2⟩
            · simp only [hk, if_false] at h ⊢; exact ih _ _ h
        exact key l 0 j' h
      have := ih hnd.2 h'
      simp only [mdel, List.filter_cons, List.eraseIdx_cons_succ] at this ⊢
      rw [if_pos (by simpa using hk), this]
theorem mdel_none {l : List (K × Nat)} {k : K} (h : mfind l k 0 = none) : mdel l k = l := by
  have := mfind_none h
  unfold mdel
  rw [List.filter_eq_self]
  intro p hp
  simp
  intro e
  exact this (List.mem_map.2 ⟨p, hp, e⟩)
theorem mput_none {l : List (K × Nat)} {k : K} {v : Nat} (h : mfind l k 0 = none) : mput l k v = l ++ [(k, v)] := by rw [mput, if_neg (mfind_none h)]
theorem mput_nodup {l : List (K × Nat)} (k : K) (v : Nat) (hnd : (l.map (·.1)).Nodup) : ((mput l k v).map (·.1)).Nodup := by
  unfold mput
  split
  · rw [List.map_map]
    have : ((fun p : K × Nat => p.1) ∘ fun p : K × Nat => if p.1 = k then (p.1, v) else p) = fun p => p.1 := by funext p; simp only [Function.comp]; split <;> rfl
    rw [this]; exact hnd
  · rename_i h
    rw [List.map_append, List.nodup_append]
    exact ⟨hnd, by simp, by intro a ha b hb e; simp at hb; subst hb; subst e; exact h ha⟩
theorem mdel_nodup {l : List (K × Nat)} (k : K) (hnd : (l.map (·.1)).Nodup) : ((mdel l k).map (·.1)).Nodup := hnd.sublist (List.filter_sublist.map _)
end plain

/-- How keys of a type stand in memory. -/
structure KeyEnc (P : Program) (kt : TypeId) (K : Type) [DecidableEq K] (enc : K → Value) : Prop where
  check : ∀ b k w, (Instr.checkKey b 10000 kt (enc k)).run P w = .ok () w
  find : ∀ (k : K) (l : List (K × Nat)) (es : List MapEntry) w, es.map (fun e => (e.key, e.val)) = l.map (fun p => (enc p.1, Value.int .u64 (p.2 : Nat))) →
    (Instr.findKey kt (enc k) es).run P w = .ok ((mfind l k 0).map fun q => (q.1, Value.int .u64 (q.2 : Nat))) w
  same : ∀ k, Instr.sameBits 10000 (enc k) (enc k) = true

/-- Block b is a map with these entries. -/
def MapMem {K : Type} (enc : K → Value) (w : World) (b : Nat) (l : List (K × Nat)) : Prop :=
  (l.map (·.1)).Nodup ∧ ∃ es clock, w.heap[b]? = some (.map es clock) ∧ es.toList.map (fun e => (e.key, e.val)) = l.map (fun p => (enc p.1, Value.int .u64 (p.2 : Nat)))

section mem
variable {P : Program} {K : Type} {enc : K → Value}
theorem MapMem.of_heap {w w' : World} {b : Nat} {l : List (K × Nat)} (h : MapMem enc w b l) (e : w'.heap[b]? = w.heap[b]?) : MapMem enc w' b l := by
  obtain ⟨hn, es, c, hb, he⟩ := h
  exact ⟨hn, es, c, e.trans hb, he⟩
theorem MapMem.lt {w : World} {b : Nat} {l : List (K × Nat)} (h : MapMem enc w b l) : b < w.heap.size := by
  obtain ⟨_, es, c, hb, he⟩ := h
  exact (Array.getElem?_eq_some_iff.1 hb).1
theorem run_getObj_map {w : World} {b : Nat} {es : Array MapEntry} {c : Nat} (hb : w.heap[b]? = some (.map es c)) : (getObj b).run P w = .ok (.map es c) w := by
  simp [getObj, Sem.run, hb]
theorem run_setObj_map {w : World} {b : Nat} {es : Array MapEntry} {c : Nat} (hb : w.heap[b]? = some (.map es c)) (o : Obj) : (setObj b o).run P w = .ok () { w with heap := w.heap.setIfInBounds b o } := by
  simp [setObj, Sem.run, hb]

end mem

section laws
variable {P : Program} {kt et mt : TypeId} {K : Type} [DecidableEq K] {enc : K → Value}

theorem run_mlook (E : KeyEnc P kt K enc) (hm : P.underlying mt = some (.map kt et)) (hz : ∀ w, (zeroValue et).run P w = .ok (.int .u64 0) w) {w : World} {b : Nat} {l : List (K × Nat)} (h : MapMem enc w b l) (k : K) :
    (Instr.lookup mt (.map (some b)) (enc k) false).run P w = .ok (.int .u64 ((mget l k).getD 0 : Nat)) w := by
  obtain ⟨hn, es, c, hb, he⟩ := h
  have hf := E.find k l es.toList w he
  unfold Instr.lookup
  simp only [Sem.run_bind, run_underlying hm, Result.andThen_ok, run_getObj_map hb, Sem.run_pure, E.check, hf]
  have hg := mfind_get l k 0
  cases hq : mfind l k 0 with
  | none =>
    rw [hq] at hg
    simp [hz, ← hg]
  | some q =>
    rw [hq] at hg
    simp [← hg]

theorem setObj_grown {w : World} {b : Nat} (o : Obj) : w.grownBy { w with heap := w.heap.setIfInBounds b o } (some b) := by
  refine ⟨rfl, rfl, rfl, by simp, fun k hk hne => ?_⟩
  show (w.heap.setIfInBounds b o)[k]? = _
  rw [Array.getElem?_setIfInBounds_ne (fun e => hne (by rw [e]))]

theorem run_mput (E : KeyEnc P kt K enc) (hm : P.underlying mt = some (.map kt et)) {w : World} {b : Nat} {l : List (K × Nat)} (h : MapMem enc w b l) (k : K) (v : Nat) :
    ∃ w', (Instr.mapUpdate mt (.map (some b)) (enc k) (.int .u64 (v : Nat))).run P w = .ok () w' ∧ MapMem enc w' b (mput l k v) ∧ w.grownBy w' (some b) ∧ w'.heap.size = w.heap.size := by
  have hlt := h.lt
  obtain ⟨hn, es, c, hb, he⟩ := h
  have hf := E.find k l es.toList w he
  unfold Instr.mapUpdate
  simp only [Sem.run_bind, run_underlying hm, Result.andThen_ok, run_getObj_map hb, E.check, hf]
  cases hq : mfind l k 0 with
  | none =>
    simp only [Option.map_none]
    rw [run_setObj_map hb]
    refine ⟨_, rfl, ⟨mput_nodup k v hn, es.push { key := enc k, val := .int .u64 (v : Nat), born := c }, c + 1, by simp [hlt], ?_⟩, setObj_grown _, by simp⟩
    rw [mput_none hq]
    simp [he]
  | some q =>
    obtain ⟨j, u⟩ := q
    obtain ⟨-, h2, -⟩ := mfind_some hq
    simp only [Nat.sub_zero] at h2
    have hj : j < l.length := (List.getElem?_eq_some_iff.1 h2).1
    have hlen : es.toList.length = l.length := by have := congrArg List.length he; simpa using this
    have hje : j < es.size := by simp at hlen; omega
    have hkey : (es[j]?).map (·.key) = some (enc k) := by
      have := congrArg (fun x => x[j]?) he
      simp only [List.getElem?_map, h2, Option.map_some] at this
      rw [← Array.getElem?_toList]
      cases hx : es.toList[j]? with
      | none => rw [hx] at this; simp at this
      | some x => rw [hx] at this; simp at this; simp [this.1]
    have hold : ((es[j]?).map (·.key)).getD (enc k) = enc k := by rw [hkey]; rfl
    simp only [Option.map_some, hold]
    have hks : (Instr.keyThatStays (enc k) (enc k)).run P w = .ok (enc k) w := by
      unfold Instr.keyThatStays
      rw [if_pos (E.same k)]
      rfl
    simp only [Sem.run_bind, hks, Result.andThen_ok]
    rw [run_setObj_map hb]
    refine ⟨_, rfl, ⟨mput_nodup k v hn, es.modify j fun e => { e with key := enc k, val := .int .u64 (v : Nat) }, c, by simp [hlt], ?_⟩, setObj_grown _, by simp⟩
    rw [mput_eq hn hq]
    apply List.ext_getElem?
    intro i
    have hi := congrArg (fun x => x[i]?) he
    simp only [List.getElem?_map] at hi
    simp only [List.getElem?_map, Array.toList_modify, List.getElem?_modify]
    by_cases e : j = i
    · subst e
      simp only [if_true]
      rw [h2] at hi ⊢
      cases hx : es.toList[j]? with
      | none => rw [hx] at hi; simp at hi
      | some x => simp
    · simp only [e, if_false]
      simpa using hi

theorem run_mdel (E : KeyEnc P kt K enc) (hm : P.underlying mt = some (.map kt et)) {w : World} {b : Nat} {l : List (K × Nat)} (h : MapMem enc w b l) (k : K) (tt ty : TypeId) :
    ∃ w', (Builtin.delete_ #[mt, tt] ty #[.map (some b), enc k]).run P w = .ok (.tuple #[]) w' ∧ MapMem enc w' b (mdel l k) ∧ w.grownBy w' (some b) ∧ w'.heap.size = w.heap.size := by
  have hlt := h.lt
  obtain ⟨hn, es, c, hb, he⟩ := h
  have hf := E.find k l es.toList w he
  unfold Builtin.delete_
  simp only [List.getElem?_toArray, List.getElem?_cons_zero, List.getElem?_cons_succ, Sem.run_bind, run_underlying hm, Result.andThen_ok, run_getObj_map hb, E.check, hf]
  cases hq : mfind l k 0 with
  | none =>
    simp only [Option.map_none, Sem.run_bind]
    rw [run_setObj_map hb]
    simp only [Result.andThen_ok, Sem.run_pure]
    refine ⟨_, rfl, ⟨mdel_nodup k hn, es, c, by simp [hlt], ?_⟩, setObj_grown _, by simp⟩
    rw [mdel_none hq]
    exact he
  | some q =>
    obtain ⟨j, u⟩ := q
    simp only [Option.map_some, Sem.run_bind]
    rw [run_setObj_map hb]
    simp only [Result.andThen_ok, Sem.run_pure]
    refine ⟨_, rfl, ⟨mdel_nodup k hn, es.eraseIdxIfInBounds j, c, by simp [hlt], ?_⟩, setObj_grown _, by simp⟩
    rw [mdel_eq hn hq, Array.toList_eraseIdxIfInBounds]
    apply List.ext_getElem?
    intro i
    have h1 := congrArg (fun x => x[i]?) he
    have h2 := congrArg (fun x => x[i + 1]?) he
    simp only [List.getElem?_map] at h1 h2
    simp only [List.getElem?_map, List.getElem?_eraseIdx]
    split
    · exact h1
    · exact h2

theorem wpList_mput {ops : Array Oper} {rest : List Oper} {o : Oper} {a : Act} {Q : Exit → Act → World → Prop} (E : KeyEnc P kt K enc) (hm : P.underlying mt = some (.map kt et)) {w : World} {b : Nat} {l : List (K × Nat)} (h : MapMem enc w b l) (k : K) (v : Nat)
    (hg : o.guard = none) (m x y : Operand) (ho : o.op = .mapUpdate mt m x y) (hmv : a.eval m = .map (some b)) (hx : a.eval x = enc k) (hy : a.eval y = .int .u64 (v : Nat))
    (hK : ∀ w', MapMem enc w' b (mput l k v) → w.grownBy w' (some b) → w'.heap.size = w.heap.size → wpList P ops Q rest (a.put o.dst undef) w') : wpList P ops Q (o :: rest) a w := by
  refine wpList_plain hg fun K' hK' => ?_
  obtain ⟨w', hr, h1, h2, h3⟩ := run_mput E hm h k v
  unfold Oper.wp
  simp [execOp, ho, hmv, hx, hy, hr, Result.andThen]
  exact hK' _ _ (hK w' h1 h2 h3)
theorem wpList_mdel {ops : Array Oper} {rest : List Oper} {o : Oper} {a : Act} {Q : Exit → Act → World → Prop} (E : KeyEnc P kt K enc) (hm : P.underlying mt = some (.map kt et)) {w : World} {b : Nat} {l : List (K × Nat)} (h : MapMem enc w b l) (k : K) (tt : TypeId)
    (hg : o.guard = none) (m x : Operand) (ho : o.op = .call { callee := .builtin .delete, args := #[m, x], argTypes := #[mt, tt] }) (hmv : a.eval m = .map (some b)) (hx : a.eval x = enc k)
    (hK : ∀ w', MapMem enc w' b (mdel l k) → w.grownBy w' (some b) → w'.heap.size = w.heap.size → wpList P ops Q rest (a.put o.dst (.tuple #[])) w') : wpList P ops Q (o :: rest) a w := by
  refine wpList_plain hg fun K' hK' => ?_
  obtain ⟨w', hr, h1, h2, h3⟩ := run_mdel E hm h k tt o.type
  unfold Oper.wp
  simp [execOp, ho, resolve, invoke, builtin, hmv, hx, hr, Result.andThen]
  exact hK' _ _ (hK w' h1 h2 h3)
end laws

/-! ### keys -/
theorem bytes_beq (a b : HD.Bs) : ((⟨a.toArray⟩ : ByteArray) == ⟨b.toArray⟩) = decide (a = b) := by
  rw [beq_toListBytes, ByteArray.toList_eq, ByteArray.toList_eq]
  show (a.toArray.toList == b.toArray.toList) = _
  rw [Bool.eq_iff_iff]; simp
def encS (k : HD.Bs) : Value := .string ⟨k.toArray⟩
def encP (k : HD.Bs × HD.Bs) : Value := .agg #[.string ⟨k.1.toArray⟩, .string ⟨k.2.toArray⟩]

theorem findNow_str (k : HD.Bs) : ∀ (l : List (HD.Bs × Nat)) (es : List MapEntry) (i : Nat), es.map (fun e => (e.key, e.val)) = l.map (fun p => (encS p.1, Value.int .u64 (p.2 : Nat))) →
    Instr.findNow .string (encS k) es i = some ((mfind l k i).map fun q => (q.1, Value.int .u64 (q.2 : Nat)))
  | [], es, i, h => by
    have : es = [] := by simpa using h
    subst this; rfl
  | p :: l, es, i, h => by
    obtain ⟨e, es, rfl⟩ : ∃ e es', es = e :: es' := by cases es with | nil => simp at h | cons e es => exact ⟨e, es, rfl⟩
    simp only [List.map_cons, List.cons.injEq, Prod.mk.injEq] at h
    obtain ⟨⟨h1, h2⟩, h3⟩ := h
    have ih := findNow_str k l es (i + 1) h3
    have hs : Instr.sameNow .string (encS k) e.key = some (decide (k = p.1)) := by rw [h1]; simp only [Instr.sameNow, encS, bytes_beq]
    simp only [Instr.findNow, hs, mfind]
    by_cases hk : p.1 = k
    · rw [show decide (k = p.1) = true by simp [hk]]; simp [hk, h2]
    · rw [show decide (k = p.1) = false by simp; exact fun e => hk e.symm]; simp [hk, ih]

theorem key_string {P : Program} {kt : TypeId} (hk : P.underlying kt = some .string) : KeyEnc P kt HD.Bs encS where
  check := fun b k w => by
    show (Instr.checkKey b (9999 + 1) kt (encS k)).run P w = _
    rw [Instr.checkKey]
    simp only [Sem.run_bind, run_underlying hk, Result.andThen_ok, encS]
    rfl
  find := fun k l es w h => by
    unfold Instr.findKey
    simp only [Sem.run_bind, run_underlying hk, Result.andThen_ok, findNow_str k l es 0 h, Sem.run_pure]
  same := fun k => by simp [Instr.sameBits, encS, bytes_beq]

theorem findAsking_pair {P : Program} {kt : TypeId} (heq : ∀ (k q : HD.Bs × HD.Bs) w, (Op.equal kt (encP k) (encP q)).run P w = .ok (decide (k = q)) w) (k : HD.Bs × HD.Bs) : ∀ (l : List ((HD.Bs × HD.Bs) × Nat)) (es : List MapEntry) (i : Nat) w, es.map (fun e => (e.key, e.val)) = l.map (fun p => (encP p.1, Value.int .u64 (p.2 : Nat))) →
    (Instr.findAsking kt (encP k) es i).run P w = .ok ((mfind l k i).map fun q => (q.1, Value.int .u64 (q.2 : Nat))) w
  | [], es, i, w, h => by
    have : es = [] := by simpa using h
    subst this; rfl
  | p :: l, es, i, w, h => by
    obtain ⟨e, es, rfl⟩ : ∃ e es', es = e :: es' := by cases es with | nil => simp at h | cons e es => exact ⟨e, es, rfl⟩
    simp only [List.map_cons, List.cons.injEq, Prod.mk.injEq] at h
    obtain ⟨⟨h1, h2⟩, h3⟩ := h
    have ih := findAsking_pair heq k l es (i + 1) w h3
    simp only [Instr.findAsking, Sem.run_bind, h1, heq, Result.andThen_ok, mfind]
    by_cases hk : p.1 = k
    · simp [hk, h2]
    · have hk' : ¬ k = p.1 := fun e => hk e.symm
      simp only [hk', decide_false, Bool.false_eq_true, if_false, hk]
      exact ih

def pairFields : Array Field := #[⟨ "name", 9, 0, false, "", "loop.example/pub-g03022/pub/hpack", 0⟩, ⟨ "value", 9, 1, false, "", "loop.example/pub-g03022/pub/hpack", 16⟩]
theorem fields_pair : Tryd.prog.fieldsOf 115 = pairFields := by kernel_rfl
theorem under_pair : Tryd.prog.underlying 115 = some (.struct pairFields) := Tryd.underlying115
theorem part_str (cs : Array Value) (i : Nat) (v : Value) (h : cs[i]? = some v) (w : World) : (part 9 cs i).run Tryd.prog w = .ok v w := by
  unfold part isAgg
  simp only [Sem.run_bind, run_underlying Tryd.underlying9, Result.andThen_ok, Sem.run_pure, Bool.false_eq_true, if_false, h]
theorem equal_str (d : Nat) (a b : HD.Bs) (w : World) : (Op.equalIn (d + 1) 9 (.string ⟨a.toArray⟩) (.string ⟨b.toArray⟩)).run Tryd.prog w = .ok (decide (a = b)) w := by
  rw [Op.equalIn]
  simp only [Sem.run_bind, run_underlying Tryd.underlying9, Result.andThen_ok, bytes_beq]
  rfl
theorem equal_pair_in (d : Nat) (k q : HD.Bs × HD.Bs) (w : World) : (Op.equalIn (d + 1 + 1) 115 (encP k) (encP q)).run Tryd.prog w = .ok (decide (k = q)) w := by
  obtain ⟨k1, k2⟩ := k
  obtain ⟨q1, q2⟩ := q
  unfold encP
  rw [run_equalIn_struct w (d + 1) _ _ _ (by rw [fields_pair]; exact under_pair) (by kernel_rfl), fields_pair]
  have p1 : ∀ w, (part 9 #[.string ⟨k1.toArray⟩, .string ⟨k2.toArray⟩] 0).run Tryd.prog w = .ok (.string ⟨k1.toArray⟩) w := part_str _ 0 _ rfl
  have p2 : ∀ w, (part 9 #[.string ⟨k1.toArray⟩, .string ⟨k2.toArray⟩] 1).run Tryd.prog w = .ok (.string ⟨k2.toArray⟩) w := part_str _ 1 _ rfl
  have p3 : ∀ w, (part 9 #[.string ⟨q1.toArray⟩, .string ⟨q2.toArray⟩] 0).run Tryd.prog w = .ok (.string ⟨q1.toArray⟩) w := part_str _ 0 _ rfl
  have p4 : ∀ w, (part 9 #[.string ⟨q1.toArray⟩, .string ⟨q2.toArray⟩] 1).run Tryd.prog w = .ok (.string ⟨q2.toArray⟩) w := part_str _ 1 _ rfl
  unfold pairFields
  simp only [Op.eqFields]
  rw [if_pos (by decide), if_pos (by decide)]
  simp only [Sem.run_bind, p1, p2, p3, p4, Result.andThen_ok, equal_str, Sem.run_ite, Sem.run_pure]
  by_cases h1 : k1 = q1 <;> by_cases h2 : k2 = q2 <;> simp [h1, h2]
theorem equal_pair (k q : HD.Bs × HD.Bs) (w : World) : (Op.equal 115 (encP k) (encP q)).run Tryd.prog w = .ok (decide (k = q)) w := equal_pair_in 9998 k q w
theorem check_pair_in (b : Bool) (d : Nat) (k : HD.Bs × HD.Bs) (w : World) : (Instr.checkKey b (d + 1 + 1) 115 (encP k)).run Tryd.prog w = .ok () w := by
  have c1 : ∀ (s : HD.Bs) w, (Instr.checkKey b (d + 1) 9 (.string ⟨s.toArray⟩)).run Tryd.prog w = .ok () w := fun s w => by
    rw [Instr.checkKey]
    simp only [Sem.run_bind, run_underlying Tryd.underlying9, Result.andThen_ok]
    rfl
  obtain ⟨k1, k2⟩ := k
  have p1 : ∀ w, (part 9 #[.string ⟨k1.toArray⟩, .string ⟨k2.toArray⟩] 0).run Tryd.prog w = .ok (.string ⟨k1.toArray⟩) w := part_str _ 0 _ rfl
  have p2 : ∀ w, (part 9 #[.string ⟨k1.toArray⟩, .string ⟨k2.toArray⟩] 1).run Tryd.prog w = .ok (.string ⟨k2.toArray⟩) w := part_str _ 1 _ rfl
  rw [Instr.checkKey]
  unfold encP
  simp only [Sem.run_bind, run_underlying under_pair, Result.andThen_ok]
  unfold pairFields
  rw [← Array.forIn_toList]
  simp [Sem.run_bind, p1, p2, c1, Result.andThen_ok]
theorem check_pair (b : Bool) (k : HD.Bs × HD.Bs) (w : World) : (Instr.checkKey b 10000 115 (encP k)).run Tryd.prog w = .ok () w := check_pair_in b 9998 k w
#print axioms equal_pair
theorem key_pair : KeyEnc Tryd.prog 115 (HD.Bs × HD.Bs) encP where
  check := check_pair
  find := fun k l es w h => by
    unfold Instr.findKey
    simp only [Sem.run_bind, run_underlying Tryd.underlying115, Result.andThen_ok]
    have ha := findAsking_pair equal_pair k l es 0 w h
    cases es with
    | nil =>
      have : l = [] := by simpa using h.symm
      subst this
      rfl
    | cons e es => exact ha
  same := fun k => by simp [Instr.sameBits, encP, bytes_beq]
end Go.Proofs.YtmlnmllnlekcgaaDoor
/-
  Contracts of HuffmanEncodeLength and HuffmanLength over the table of the codes' lengths: the number of bits of the codes, in whole bytes. Texts of at most 2^20 bytes.
-/
namespace Go.Proofs.YtmlnmllnlekcgaaDoor
open Go.ChangeShapes Go.WideShapes Go.ChangeAt Go.RowKit

/-- The table of the codes' lengths lies in memory. -/
def LenTab (w : World) : Prop := ∀ i, i < 256 → w.cell? ⟨6, i, none⟩ = some (.int .u8 (HP.hlen i : Nat))

theorem hlen_lt (i : Nat) (_h : i < 256) : HP.hlen i ≤ 30 := by
  have : ∀ x ∈ HP.lensL, x ≤ 30 := by decide +kernel
  unfold HP.hlen
  rw [List.getD_eq_getElem?_getD]
  cases hx : HP.lensL[i]? with
  | none => simp
  | some x => exact this x (List.mem_of_getElem? hx)

theorem nbits_snoc (l : List UInt8) (c : UInt8) : HP.nbits (l ++ [c]) = HP.nbits l + HP.hlen c.toNat := by simp [HP.nbits]
theorem take_snoc (s : ByteArray) (k : Nat) (h : k < s.size) : s.data.toList.take (k + 1) = s.data.toList.take k ++ [s[k]] := by
  rw [List.take_succ_eq_append_getElem (by simpa using h)]; rfl
theorem nbits_le (l : List UInt8) : HP.nbits l ≤ 30 * l.length := by
  induction l with
  | nil => simp [HP.nbits]
  | cons c l ih =>
    have := hlen_lt c.toNat (by simpa using c.toNat_lt)
    simp only [HP.nbits, List.map_cons, List.sum_cons, List.length_cons] at ih ⊢
    omega

end Go.Proofs.YtmlnmllnlekcgaaDoor
/-
  PLAIN: the encoder's buffer of bits, as a number: what a step makes of it, and which bytes it hands on.
-/
namespace Go.Proofs.YtmlnmllnlekcgaaDoor.HP

/-- A step of the encoder's buffer: shifted left, a code put in. -/
def stepX (X L C : Nat) : Nat := 2 ^ L * (X % 2 ^ (64 - L)) + C

theorem stepX_lt {X L C : Nat} (hL : L ≤ 64) (hC : C < 2 ^ L) : stepX X L C < 2 ^ 64 := by
  unfold stepX
  have h1 : X % 2 ^ (64 - L) + 1 ≤ 2 ^ (64 - L) := Nat.mod_lt _ (Nat.two_pow_pos _)
  have h2 : 2 ^ L * (X % 2 ^ (64 - L) + 1) ≤ 2 ^ L * 2 ^ (64 - L) := Nat.mul_le_mul_left _ h1
  rw [← Nat.pow_add, Nat.mul_add, Nat.mul_one] at h2
  have e : L + (64 - L) = 64 := by omega
  rw [e] at h2
  omega

theorem stepX_or {X L C : Nat} (hL : L ≤ 64) (hC : C < 2 ^ L) : (X * 2 ^ L % 2 ^ 64) ||| C = stepX X L C := by
  have e : (64 : Nat) = L + (64 - L) := by omega
  have h : X * 2 ^ L % 2 ^ 64 = 2 ^ L * (X % 2 ^ (64 - L)) := by
    conv => lhs; rw [e, Nat.pow_add, Nat.mul_comm X]
    exact Nat.mul_mod_mul_left _ _ _
  rw [h, stepX, Nat.two_pow_add_eq_or_of_lt hC]

theorem stepX_bits {X m L C : Nat} {r : List Bool} (hr : r.length = m) (hX : X % 2 ^ m = ofBits r) (hC : C < 2 ^ L) (h : m + L ≤ 64) :
    stepX X L C % 2 ^ (m + L) = ofBits (r ++ bitsOf L C) := by
  rw [ofBits_append, length_bitsOf, ofBits_bitsOf, Nat.mod_eq_of_lt hC, ← hX]
  have h1 : X % 2 ^ (64 - L) % 2 ^ m = X % 2 ^ m := Nat.mod_mod_of_dvd _ (Nat.pow_dvd_pow 2 (by omega))
  unfold stepX
  generalize X % 2 ^ (64 - L) = Z at *
  have hd := Nat.div_add_mod Z (2 ^ m)
  have hlt : Z % 2 ^ m < 2 ^ m := Nat.mod_lt _ (Nat.two_pow_pos _)
  have e1 : 2 ^ L * Z + C = 2 ^ (m + L) * (Z / 2 ^ m) + (2 ^ L * (Z % 2 ^ m) + C) := by
    conv => lhs; rw [← hd]
    rw [Nat.mul_add, Nat.pow_add, Nat.mul_comm (2 ^ m) (2 ^ L), Nat.mul_assoc (2 ^ L)]
    omega
  rw [e1, Nat.mul_add_mod, h1, Nat.mul_comm (2 ^ L), Nat.mod_eq_of_lt]
  rw [← h1]
  have h2 : (Z % 2 ^ m + 1) * 2 ^ L ≤ 2 ^ m * 2 ^ L := Nat.mul_le_mul_right _ hlt
  rw [Nat.add_mul, Nat.one_mul, ← Nat.pow_add] at h2
  omega

/-- The bits that stand above the lowest j of them. -/
theorem top_bits {X m j : Nat} {r : List Bool} (hr : r.length = m + j) (hX : X % 2 ^ (m + j) = ofBits r) :
    X / 2 ^ j % 2 ^ m = ofBits (r.take m) ∧ X % 2 ^ j = ofBits (r.drop m) := by
  have hs : ofBits r = ofBits (r.take m) * 2 ^ j + ofBits (r.drop m) := by
    conv => lhs; rw [← List.take_append_drop m r]
    rw [ofBits_append]
    have : (r.drop m).length = j := by simp; omega
    rw [this]
  have hlt : ofBits (r.drop m) < 2 ^ j := by
    have := ofBits_lt (r.drop m)
    have e : (r.drop m).length = j := by simp; omega
    rwa [e] at this
  have hpos : 0 < 2 ^ j := Nat.two_pow_pos _
  have h1 : X / 2 ^ j % 2 ^ m = X % 2 ^ (m + j) / 2 ^ j := by
    rw [Nat.pow_add, Nat.mul_comm (2 ^ m), Nat.mod_mul_right_div_self]
  have h2 : X % 2 ^ j = X % 2 ^ (m + j) % 2 ^ j := by
    rw [Nat.mod_mod_of_dvd]; rw [Nat.pow_add]; exact Nat.dvd_mul_left _ _
  rw [h1, h2, hX, hs]
  constructor
  · rw [Nat.mul_comm, Nat.mul_add_div hpos, Nat.div_eq_of_lt hlt, Nat.add_zero]
  · rw [Nat.mul_comm, Nat.mul_add_mod, Nat.mod_eq_of_lt hlt]

theorem pack_nil : pack [] = [] := rfl

theorem pack8 {l : List Bool} (h : l.length = 8) : pack l = [UInt8.ofNat (ofBits l)] := by
  have := pack_append8 h []
  simpa [pack_nil] using this

theorem pack_split {l : List Bool} {m : Nat} (h : l.length = 8 + m) : ∃ a b, pack l = UInt8.ofNat a :: pack b ∧ b.length = m ∧ ofBits l = a * 2 ^ m + ofBits b ∧ a < 256 := by
  refine ⟨ofBits (l.take 8), l.drop 8, ?_, by simp; omega, ?_, ?_⟩
  · conv => lhs; rw [← List.take_append_drop 8 l]
    rw [pack_append8 (by simp; omega)]
  · conv => lhs; rw [← List.take_append_drop 8 l]
    rw [ofBits_append]
    have : (l.drop 8).length = m := by simp; omega
    rw [this]
  · have := ofBits_lt (l.take 8)
    have e : (l.take 8).length = 8 := by simp; omega
    rwa [e] at this

theorem pack16 {l : List Bool} (h : l.length = 16) : pack l = [UInt8.ofNat (ofBits l / 256), UInt8.ofNat (ofBits l % 256)] := by
  obtain ⟨a, b, h1, h2, h3, h4⟩ := pack_split (m := 8) h
  have hb := ofBits_lt b
  rw [h2] at hb
  rw [h1, pack8 h2, h3]
  have e1 : (a * 2 ^ 8 + ofBits b) / 256 = a := by omega
  have e2 : (a * 2 ^ 8 + ofBits b) % 256 = ofBits b := by omega
  rw [e1, e2]

theorem pack24 {l : List Bool} (h : l.length = 24) : pack l = [UInt8.ofNat (ofBits l / 65536), UInt8.ofNat (ofBits l / 256 % 256), UInt8.ofNat (ofBits l % 256)] := by
  obtain ⟨a, b, h1, h2, h3, h4⟩ := pack_split (m := 16) h
  have hb := ofBits_lt b
  rw [h2] at hb
  rw [h1, pack16 h2, h3]
  have e1 : (a * 2 ^ 16 + ofBits b) / 65536 = a := by omega
  have e2 : (a * 2 ^ 16 + ofBits b) / 256 % 256 = ofBits b / 256 := by omega
  have e3 : (a * 2 ^ 16 + ofBits b) % 256 = ofBits b % 256 := by omega
  rw [e1, e2, e3]

theorem pack32 {l : List Bool} (h : l.length = 32) : pack l = [UInt8.ofNat (ofBits l / 16777216), UInt8.ofNat (ofBits l / 65536 % 256), UInt8.ofNat (ofBits l / 256 % 256), UInt8.ofNat (ofBits l % 256)] := by
  obtain ⟨a, b, h1, h2, h3, h4⟩ := pack_split (m := 24) h
  have hb := ofBits_lt b
  rw [h2] at hb
  rw [h1, pack24 h2, h3]
  have e1 : (a * 2 ^ 24 + ofBits b) / 16777216 = a := by omega
  have e2 : (a * 2 ^ 24 + ofBits b) / 65536 % 256 = ofBits b / 65536 := by omega
  have e3 : (a * 2 ^ 24 + ofBits b) / 256 % 256 = ofBits b / 256 % 256 := by omega
  have e4 : (a * 2 ^ 24 + ofBits b) % 256 = ofBits b % 256 := by omega
  rw [e1, e2, e3, e4]

/-- Ones. -/
theorem bitsOf_ones (n : Nat) : bitsOf n (2 ^ n - 1) = List.replicate n true := by
  induction n with
  | zero => rfl
  | succ n ih =>
    rw [bitsOf]
    have hpos : 0 < 2 ^ n := Nat.two_pow_pos _
    have e1 : (2 ^ (n + 1) - 1) / 2 = 2 ^ n - 1 := by rw [Nat.pow_succ]; omega
    have e2 : (2 ^ (n + 1) - 1) % 2 = 1 := by rw [Nat.pow_succ]; omega
    rw [e1, e2, ih, List.replicate_succ']
    rfl

end Go.Proofs.YtmlnmllnlekcgaaDoor.HP
