/-
  Texts of this seat, one behind the other: HuffApp, Node, Rowm, Tab, Evict, Evict2, TabOps. What each one shows stands at its head. No condition.
-/
import Derived.Test.YtmlnmllnlekcgaaDoorMb1
import Derived.Maps.AppendAt
import Derived.Deep.DeepMust
import Derived.Lib.UnsafeStr
import Derived.Lib.BufferWrite
import Derived.Lib.OthersKept
import Derived.Deep.LoopGhost
import Derived.BigQuiet
import Derived.Deep.QuietTactic
import Derived.Laws.CopyRow
import Derived.Laws.OwnMore
import Derived.Lib.OwnKind
/-
  The contract of AppendHuffmanString: it appends the text's codes, filled up with ones. Texts of at most 2^20 bytes.
-/
namespace Go.Proofs.YtmlnmllnlekcgaaDoor
open Go.ChangeShapes Go.WideShapes Go.ChangeAt Go.RowKit

/-- The table of the codes lies in memory. -/
def CodeTab (w : World) : Prop := ∀ i, i < 256 → w.cell? ⟨5, i, none⟩ = some (.int .u32 (HP.hcode i : Nat))

/-- What was appended to: no other old block has changed; the new slice lies where the old one lay, or in a new block. -/
structure Grew (w w' : World) (v v' : Value) : Prop where
  grown : w.grownBy w' v.ownBlock
  at_ : v'.ownBlock = v.ownBlock ∨ ∃ g, v'.ownBlock = some g ∧ w.heap.size ≤ g

theorem Grew.refl (w : World) (v : Value) : Grew w w v v := ⟨⟨rfl, rfl, rfl, Nat.le_refl _, fun _ _ _ => rfl⟩, .inl rfl⟩
theorem Grew.trans {w1 w2 w3 : World} {a b c : Value} (h : Grew w1 w2 a b) (k : Grew w2 w3 b c) : Grew w1 w3 a c := by
  refine ⟨⟨k.grown.os.trans h.grown.os, k.grown.tape.trans h.grown.tape, k.grown.output.trans h.grown.output, Nat.le_trans h.grown.size k.grown.size, fun i hi hne => ?_⟩, ?_⟩
  · rw [k.grown.block i (Nat.lt_of_lt_of_le hi h.grown.size) ?_, h.grown.block i hi hne]
    rcases h.at_ with e | ⟨g, e, hg⟩
    · rw [e]; exact hne
    · rw [e]; intro h0; have := Option.some.inj h0; omega
  · rcases k.at_ with e | ⟨g, e, hg⟩
    · rcases h.at_ with e' | ⟨g', e', hg'⟩
      · exact .inl (e.trans e')
      · exact .inr ⟨g', e.trans e', hg'⟩
    · exact .inr ⟨g, e, Nat.le_trans h.grown.size hg⟩

theorem Grew.alloc {w wr : World} {v d : Value} (h : Grew w wr v d) (o : Obj) : Grew w (wr.alloc o) v d :=
  h.trans ⟨World.grownBy_alloc wr o d.ownBlock, .inl rfl⟩
theorem Grew.drew {w wr : World} {v d : Value} (h : Grew w wr v d) : Grew w wr.drew v d :=
  h.trans ⟨⟨rfl, rfl, rfl, Nat.le_refl _, fun _ _ _ => rfl⟩, .inl rfl⟩
/-- A block that lies below what is appended to is as it was. -/
theorem Grew.below {w w' : World} {v v' : Value} {B e size n : Nat} {xs : List Value} (h : Grew w w' v v') (hown : w.ownsRow B e size v n xs) (hB : B ≤ w.heap.size) : Below B w w' :=
  ⟨h.grown.os, h.grown.tape, h.grown.output, h.grown.size, fun k hk => h.grown.block k (by omega) (fun e => by have := hown.lt k e.symm; omega)⟩

theorem hcode_lt (i : Nat) (h : i < 256) : HP.hcode i < 2 ^ HP.hlen i := by
  have : ((List.range 256).all fun c => decide (HP.hcode c < 2 ^ HP.hlen c)) = true := by decide +kernel
  have := List.all_eq_true.1 this i (by simpa using h)
  simpa using this

theorem or_step {X L C : Nat} (hL : L ≤ 30) (hC : C < 2 ^ L) :
    bits BinOp.or IntKind.u64 (IntKind.u64.wrap ((X : Int) * 2 ^ (L % 64))) (IntKind.u64.wrap (C : Int)) = ((HP.stepX X L C : Nat) : Int) := by
  have hC' : C < 18446744073709551616 := Nat.lt_of_lt_of_le hC (Nat.le_trans (Nat.pow_le_pow_right (by decide) hL) (by decide))
  have e1 : IntKind.u64.wrap ((X : Int) * 2 ^ (L % 64)) = ((X * 2 ^ L % 2 ^ 64 : Nat) : Int) := by
    rw [Nat.mod_eq_of_lt (show L < 64 by omega)]
    simp [IntKind.wrap, IntKind.bits, IntKind.signed]
  have e2 : IntKind.u64.wrap (C : Int) = (C : Int) := by
    simp only [IntKind.wrap, IntKind.bits, IntKind.signed]
    simp
    omega
  rw [e1, e2, u64_or_nat _ _ (Nat.mod_lt _ (by decide)) hC', HP.stepX_or (by omega) hC]

theorem news_of_new (w : World) (l : List Value) (t : TypeId) : ∀ (q : Nat) u, l[q]? = some u → (w.alloc (.cells l.toArray t)).cell? ((⟨w.heap.size, 0, none⟩ : Addr).add q) = some u := by
  intro q u h
  have hadd : (⟨w.heap.size, 0, none⟩ : Addr).add q = ⟨w.heap.size, q, none⟩ := by unfold Addr.add; split <;> simp_all
  rw [hadd, World.cell?_alloc_new]
  simpa using h

theorem Grew.app {w wr w1 : World} {v d v1 : Value} {o : Obj} (h : Grew w wr v d) (hg : (wr.alloc o).grownBy w1 d.ownBlock) (hat : v1.ownBlock = d.ownBlock ∨ v1.ownBlock = some (wr.alloc o).heap.size) : Grew w w1 v v1 :=
  (h.alloc o).trans ⟨hg, hat.imp id fun e => ⟨_, e, Nat.le_refl _⟩⟩

theorem byteCell_ofNat (n : Nat) (h : n < 256) : Value.int .u8 (((UInt8.ofNat n).toNat : Nat) : Int) = .int .u8 (n : Int) := by
  rw [UInt8.toNat_ofNat', Nat.mod_eq_of_lt (by simpa using h)]

theorem cells4 {l : List Bool} (h : l.length = 32) {Y : Nat} (hY : Y = HP.ofBits l) :
    [Value.int .u8 ((Y : Int) / 16777216), .int .u8 ((Y : Int) / 65536 % 256), .int .u8 ((Y : Int) / 256 % 256), .int .u8 ((Y : Int) % 256)] = Lib.byteCells (HP.pack l) := by
  have hlt := HP.ofBits_lt l
  rw [h, ← hY] at hlt
  rw [HP.pack32 h, ← hY]
  simp only [Lib.byteCells, List.map_cons, List.map_nil]
  rw [byteCell_ofNat _ (by omega), byteCell_ofNat _ (by omega), byteCell_ofNat _ (by omega), byteCell_ofNat _ (by omega)]
  simp only [Int.natCast_ediv, Int.natCast_emod]
  rfl

theorem cells1 {l : List Bool} (h : l.length = 8) {X : Nat} (hX : X % 2 ^ 8 = HP.ofBits l) : [Value.int .u8 ((X : Int) % 256)] = Lib.byteCells (HP.pack l) := by
  rw [HP.pack8 h, ← hX]
  simp only [Lib.byteCells, List.map_cons, List.map_nil]
  rw [byteCell_ofNat _ (by omega)]
  simp only [Int.natCast_emod]
  rfl
theorem wrap16 (X : Nat) : IntKind.u16.wrap (X : Int) = ((X % 65536 : Nat) : Int) := by simp [IntKind.wrap, IntKind.bits, IntKind.signed]
theorem cells2 {l : List Bool} (h : l.length = 16) {X : Nat} (hX : X % 2 ^ 16 = HP.ofBits l) : [Value.int .u8 (IntKind.u16.wrap (X : Int) / 256 % 256), .int .u8 (IntKind.u16.wrap (X : Int) % 256)] = Lib.byteCells (HP.pack l) := by
  rw [HP.pack16 h, ← hX, wrap16]
  simp only [Lib.byteCells, List.map_cons, List.map_nil]
  rw [byteCell_ofNat _ (by omega), byteCell_ofNat _ (by omega)]
  have e1 : ((X % 65536 : Nat) : Int) / 256 % 256 = ((X % 2 ^ 16 / 256 : Nat) : Int) := by omega
  have e2 : ((X % 65536 : Nat) : Int) % 256 = ((X % 2 ^ 16 % 256 : Nat) : Int) := by omega
  rw [e1, e2]
theorem cells3 {l : List Bool} (h : l.length = 24) {X : Nat} (hX : X % 2 ^ 24 = HP.ofBits l) : [Value.int .u8 (IntKind.u16.wrap ((X : Int) / 256) / 256 % 256), .int .u8 (IntKind.u16.wrap ((X : Int) / 256) % 256), .int .u8 ((X : Int) % 256)] = Lib.byteCells (HP.pack l) := by
  have e0 : (X : Int) / 256 = ((X / 256 : Nat) : Int) := by omega
  rw [HP.pack24 h, ← hX, e0, wrap16]
  simp only [Lib.byteCells, List.map_cons, List.map_nil]
  rw [byteCell_ofNat _ (by omega), byteCell_ofNat _ (by omega), byteCell_ofNat _ (by omega)]
  have e1 : ((X / 256 % 65536 : Nat) : Int) / 256 % 256 = ((X % 2 ^ 24 / 65536 : Nat) : Int) := by omega
  have e2 : ((X / 256 % 65536 : Nat) : Int) % 256 = ((X % 2 ^ 24 / 256 % 256 : Nat) : Int) := by omega
  have e3 : (X : Int) % 256 = ((X % 2 ^ 24 % 256 : Nat) : Int) := by omega
  rw [e1, e2, e3]

theorem henc_split {t D : List UInt8} {rr : List Bool} {p q : Nat} (h : HP.tbits t ++ List.replicate p true = HP.unpack D ++ rr) (hr : rr.length = 8 * q) (hp : p < 8) : HP.henc t = D ++ HP.pack rr := by
  have hl := congrArg List.length h
  simp only [List.length_append, List.length_replicate, HP.length_unpack, hr] at hl
  have e : HP.padOf (HP.tbits t).length = p := by unfold HP.padOf; omega
  rw [HP.henc, e, h, HP.pack_unpack_append]

theorem app_done {B T n q p : Nat} {v1 : Value} {w1 : World} {xs news : List Value} {t D : List UInt8} {rr : List Bool} (hown : w1.ownsRow B T 1 v1 (n + D.length + q) (xs ++ Lib.byteCells D ++ news)) (hnews : news = Lib.byteCells (HP.pack rr)) (hr : rr.length = 8 * q)
    (h : HP.tbits t ++ List.replicate p true = HP.unpack D ++ rr) (hp : p < 8) : w1.ownsRow B T 1 v1 (n + (HP.henc t).length) (xs ++ Lib.byteCells (HP.henc t)) := by
  rw [henc_split h hr hp, List.length_append, HP.length_pack q _ hr, ← Nat.add_assoc]
  have e3 : Lib.byteCells (D ++ HP.pack rr) = Lib.byteCells D ++ Lib.byteCells (HP.pack rr) := by simp [Lib.byteCells]
  rw [e3, ← hnews, ← List.append_assoc]
  exact hown

theorem or_pad {X pd o : Nat} (hp : 1 ≤ pd ∧ pd ≤ 7) (ho : 8 - o = pd) :
    bits BinOp.or IntKind.u64 (IntKind.u64.wrap ((X : Int) * 2 ^ pd)) ((255 : Int) / 2 ^ o) = ((HP.stepX X pd (2 ^ pd - 1) : Nat) : Int) := by
  have hC : 2 ^ pd - 1 < 2 ^ pd := by have := Nat.two_pow_pos pd; omega
  have h := or_step (X := X) (L := pd) (C := 2 ^ pd - 1) (by omega) hC
  rw [Nat.mod_eq_of_lt (show pd < 64 by omega)] at h
  have e : (255 : Int) / 2 ^ o = IntKind.u64.wrap ((2 ^ pd - 1 : Nat) : Int) := by
    have hcase : (o = 1 ∧ pd = 7) ∨ (o = 2 ∧ pd = 6) ∨ (o = 3 ∧ pd = 5) ∨ (o = 4 ∧ pd = 4) ∨ (o = 5 ∧ pd = 3) ∨ (o = 6 ∧ pd = 2) ∨ (o = 7 ∧ pd = 1) := by omega
    rcases hcase with ⟨rfl, rfl⟩ | ⟨rfl, rfl⟩ | ⟨rfl, rfl⟩ | ⟨rfl, rfl⟩ | ⟨rfl, rfl⟩ | ⟨rfl, rfl⟩ | ⟨rfl, rfl⟩ <;> decide
  rw [e]
  exact h

theorem infoU8 : (Tryd.prog.info? 5).map (fun i => (i.zero, i.size, i.bytes)) = some (some (.int .u8 0), 1, 1) := by kernel_rfl

end Go.Proofs.YtmlnmllnlekcgaaDoor
/-
  The contract of newInternalNode.
-/
namespace Go.Proofs.YtmlnmllnlekcgaaDoor
open Go.ChangeShapes Go.WideShapes Go.ChangeAt Go.RowKit

theorem zero_of {P : Program} {t : TypeId} {z : Value} (h : (P.info? t).map (fun i => i.zero) = some (some z)) : ∀ w, (zeroValue t).run P w = .ok z w := by
  intro w
  cases hi : P.info? t with
  | none => rw [hi] at h; cases h
  | some i =>
    rw [hi] at h
    simp at h
    simp [zeroValue, typeInfo, hi, h]

/-- The places of a new row. -/
def kids : Array Value := Array.replicate 256 (.pointer none)
theorem kids_ne : kids ≠ #[] := by decide +kernel
theorem kids_size : kids.size = 256 := by decide +kernel
theorem kids_at {i : Nat} (h : i < 256) : kids[i]? = some (.pointer none) := by simp [kids, h]
theorem zero83 : ∀ w, (zeroValue 144).run Tryd.prog w = .ok (.agg kids) w := zero_of (by kernel_rfl)

/-- The world behind a new node. -/
def withNode (w : World) : World := (w.alloc (.cells kids 144)).alloc (.cells #[.pointer (some ⟨w.heap.size, 0, none⟩), .int .u8 0, .int .u8 0] 138)

theorem newNode_any (w : World) :
    Calls Tryd.prog 76 #[] w fun e w' => e = .returned (.pointer (some ⟨w.heap.size + 1, 0, none⟩)) ∧ w' = withNode w := by
  have hz := zero83
  have hne := kids_ne
  go_enter Tryd.func76, Tryd.ntmps76
  go_wp2
  go_ret
  exact ⟨by simp, rfl⟩
end Go.Proofs.YtmlnmllnlekcgaaDoor
/-
  PLAIN: a block of memory whose cells are known, and what stores and new blocks leave of it. And the tree of the Huffman code as it lies in memory.
-/
namespace Go.Proofs.YtmlnmllnlekcgaaDoor
open Go.ChangeShapes Go.WideShapes Go.ChangeAt Go.RowKit

/-- Block b holds n cells, no one frozen, cell i is f i. -/
def Row (w : World) (b n : Nat) (f : Nat → Value) : Prop := ∃ cs t, w.heap[b]? = some (.cells cs t (0, 0)) ∧ cs.size = n ∧ (∀ i, i < n → cs[i]? = some (f i)) ∧ t ≠ 5

namespace Row
variable {w w' : World} {b n : Nat} {f g : Nat → Value}
theorem lt (h : Row w b n f) : b < w.heap.size := by
  obtain ⟨cs, t, h, -⟩ := h
  exact (Array.getElem?_eq_some_iff.1 h).1
theorem cell (h : Row w b n f) {i : Nat} (hi : i < n) : w.cell? ⟨b, i, none⟩ = some (f i) := by
  obtain ⟨cs, t, h, -, hc, -⟩ := h
  simp [World.cell?, h, hc i hi]
theorem cell' (h : Row w b n f) {i : Nat} (hi : i < n) {v : Value} (hv : f i = v) : w.cell? ⟨b, i, none⟩ = some v := hv ▸ h.cell hi
theorem unfrozen (h : Row w b n f) (i : Nat) (s : Option Nat) : w.frozen? ⟨b, i, s⟩ = false := by
  obtain ⟨cs, t, h, -⟩ := h
  simp [World.frozen?, h]
theorem congr (h : Row w b n f) (hfg : ∀ i, i < n → f i = g i) : Row w b n g := by
  obtain ⟨cs, t, h, hn, hc, ht⟩ := h
  exact ⟨cs, t, h, hn, fun i hi => by rw [hc i hi, hfg i hi], ht⟩
theorem of_heap (h : Row w b n f) (e : w'.heap[b]? = w.heap[b]?) : Row w' b n f := by
  obtain ⟨cs, t, h, r⟩ := h
  exact ⟨cs, t, e.trans h, r⟩
theorem alloc (h : Row w b n f) (o : Obj) : Row (w.alloc o) b n f := h.of_heap (by show (w.heap.push o)[b]? = _; rw [Array.getElem?_push, if_neg (Nat.ne_of_lt h.lt)])
theorem setOther (h : Row w b n f) {a : Addr} (ha : b ≠ a.block) (u : Value) : Row (w.setCell a u) b n f := h.of_heap (Below.heap_setCell _ _ _ _ ha)
theorem below {B : Nat} (h : Row w b n f) (hb : Below B w w') (hB : b < B) : Row w' b n f := h.of_heap (hb.block b hB)
theorem set (h : Row w b n f) (j : Nat) (u : Value) : Row (w.setCell ⟨b, j, none⟩ u) b n (fun i => if i = j then u else f i) := by
  obtain ⟨cs, t, h, hn, hc, ht⟩ := h
  refine ⟨cs.setIfInBounds j u, t, ?_, by simp [hn], fun i hi => ?_, ht⟩
  · simp [World.setCell, Array.getElem?_modify, h]
  · rw [Array.getElem?_setIfInBounds]
    by_cases e : j = i
    · subst e; simp [hn, hi]
    · rw [if_neg e, hc i hi]; simp only []; rw [if_neg (fun (h : i = j) => e h.symm)]
theorem new (w : World) {cs : Array Value} (t : TypeId) (ht : t ≠ 5) (hn : cs.size = n) (hc : ∀ i, i < n → cs[i]? = some (f i)) : Row (w.alloc (.cells cs t)) w.heap.size n f := ⟨cs, t, by show (w.heap.push _)[w.heap.size]? = _; simp, hn, hc, ht⟩
theorem kept {c : Nat} (h : Row w b n f) (hk : Lib.OthersKept 5 (some c) w w') (hb : b ≠ c) : Row w' b n f := by
  obtain ⟨cs, t, h, hn, hc, ht⟩ := h
  exact ⟨cs, t, hk b _ h (fun e => hb (Option.some.inj e)) (fun c fz e => ht (by injection e)), hn, hc, ht⟩
end Row

theorem cell_other {w : World} {b j b' i : Nat} {u : Value} (h : b ≠ b') : (w.setCell ⟨b, j, none⟩ u).cell? ⟨b', i, none⟩ = w.cell? ⟨b', i, none⟩ := World.cell?_setCell_other _ _ _ _ (fun e => h (congrArg Addr.block e))

def rowB (N k : Nat) : Nat := if k = 0 then N else N + 2 * k + 1
def nodeB (N k : Nat) : Nat := if k = 0 then N + 1 else N + 2 * k + 2
def entV (N : Nat) : HP.Ent → Value
  | .none => .pointer none
  | .inner k => .pointer (some ⟨nodeB N k, 0, none⟩)
  | .leaf s _ => .pointer (some ⟨N + 2, s * 3, none⟩)
def cl8 (s : Nat) : Nat := (HP.hlen s - 1) % 8 + 1
def nodeV (N k i : Nat) : Value := if i = 0 then .pointer (some ⟨rowB N k, 0, none⟩) else .int .u8 0
def leafV (s i : Nat) : Value := if i % 3 = 0 then .pointer none else if i / 3 < s then (if i % 3 = 1 then .int .u8 (cl8 (i / 3) : Nat) else .int .u8 (i / 3 : Nat)) else .int .u8 0

/-- The tree as it lies in memory from block N on; what the leaves hold is f. -/
structure TreeMem (N : Nat) (f : Nat → Value) (t : HP.TB) (w : World) : Prop where
  size : w.heap.size = N + 2 * t.n + 1
  pos : 1 ≤ t.n
  row : ∀ k, k < t.n → Row w (rowB N k) 256 (fun i => entV N (HP.lookL t.log k i))
  node : ∀ k, k < t.n → Row w (nodeB N k) 3 (nodeV N k)
  leaves : Row w (N + 2) 768 f

theorem rowB_ne {N k k' : Nat} (h : k ≠ k') : rowB N k ≠ rowB N k' := by unfold rowB; split <;> split <;> omega
theorem rowB_node {N k k' : Nat} : rowB N k ≠ nodeB N k' := by unfold rowB nodeB; split <;> split <;> omega
theorem rowB_leaves {N k : Nat} : rowB N k ≠ N + 2 := by unfold rowB; split <;> omega
theorem nodeB_leaves {N k : Nat} : nodeB N k ≠ N + 2 := by unfold nodeB; split <;> omega
theorem le_rowB {N k : Nat} : N ≤ rowB N k := by unfold rowB; split <;> omega
theorem le_nodeB {N k : Nat} : N ≤ nodeB N k := by unfold nodeB; split <;> omega

namespace TreeMem
variable {N : Nat} {f : Nat → Value} {t : HP.TB} {w : World} {n k s c : Nat} {e : HP.Ent} {log : HP.Log}

theorem drew (h : TreeMem N f t w) : TreeMem N f t w.drew := ⟨h.size, h.pos, h.row, h.node, h.leaves⟩

/-- A leaf's cell is written. -/
theorem setLeaf (h : TreeMem N f t w) (j : Nat) (u : Value) : TreeMem N (fun i => if i = j then u else f i) t (w.setCell ⟨N + 2, j, none⟩ u) :=
  ⟨by rw [World.size_setCell]; exact h.size, h.pos, fun k hk => (h.row k hk).setOther rowB_leaves u, fun k hk => (h.node k hk).setOther nodeB_leaves u, h.leaves.set j u⟩

theorem congr {g : Nat → Value} (h : TreeMem N f t w) (hg : ∀ i, i < 768 → f i = g i) : TreeMem N g t w := ⟨h.size, h.pos, h.row, h.node, h.leaves.congr hg⟩

/-- A node's place is written; the log has it ahead. -/
theorem setRow (h : TreeMem N f t w) {k j : Nat} (e : HP.Ent) (_hk : k < t.n) : TreeMem N f ⟨t.n, (k, j, 1, e) :: t.log⟩ (w.setCell ⟨rowB N k, j, none⟩ (entV N e)) := by
  refine ⟨by rw [World.size_setCell]; exact h.size, h.pos, fun k' hk' => ?_, fun k' hk' => (h.node k' hk').setOther (fun e => rowB_node e.symm) _, h.leaves.setOther (fun e => rowB_leaves e.symm) _⟩
  by_cases hkk : k' = k
  · subst hkk
    refine ((h.row k' hk').set j _).congr fun i hi => ?_
    simp only [HP.lookL]
    by_cases hij : i = j
    · subst hij; simp
    · rw [if_neg hij, if_neg (by omega)]
  · refine ((h.row k' hk').setOther (rowB_ne hkk) _).congr fun i hi => ?_
    simp only [HP.lookL]
    rw [if_neg (by omega)]

/-- One place more of a run of leaves is written. -/
theorem setRun (h : TreeMem N f ⟨n, (k, s, c, e) :: log⟩ w) (_hk : k < n) : TreeMem N f ⟨n, (k, s, c + 1, e) :: log⟩ (w.setCell ⟨rowB N k, s + c, none⟩ (entV N e)) := by
  refine ⟨by rw [World.size_setCell]; exact h.size, h.pos, fun k' hk' => ?_, fun k' hk' => (h.node k' hk').setOther (fun e => rowB_node e.symm) _, h.leaves.setOther (fun e => rowB_leaves e.symm) _⟩
  by_cases hkk : k' = k
  · subst hkk
    refine ((h.row k' hk').set (s + c) _).congr fun i hi => ?_
    simp only [HP.lookL, true_and]
    by_cases hij : i = s + c
    · have h1 : s ≤ i ∧ i < s + (c + 1) := by omega
      simp only [if_pos hij, if_pos h1]
    · simp only [if_neg hij]
      by_cases hin : s ≤ i ∧ i < s + c
      · have h1 : s ≤ i ∧ i < s + (c + 1) := by omega
        simp only [if_pos hin, if_pos h1]
      · have h1 : ¬ (s ≤ i ∧ i < s + (c + 1)) := by omega
        simp only [if_neg hin, if_neg h1]
  · refine ((h.row k' hk').setOther (rowB_ne hkk) _).congr fun i hi => ?_
    simp only [HP.lookL]
    rw [if_neg (by omega), if_neg (by omega)]

theorem zeroRun (h : TreeMem N f ⟨n, log⟩ w) (k s : Nat) (e : HP.Ent) : TreeMem N f ⟨n, (k, s, 0, e) :: log⟩ w := by
  refine ⟨h.size, h.pos, fun k' hk' => (h.row k' hk').congr fun i hi => ?_, h.node, h.leaves⟩
  simp only [HP.lookL]
  rw [if_neg (by omega)]

/-- A new node and the place that leads to it. -/
theorem grow (h : TreeMem N f t w) {k j : Nat} (hk : k < t.n) (fresh : ∀ i, HP.lookL t.log t.n i = .none) : TreeMem N f ⟨t.n + 1, (k, j, 1, .inner t.n) :: t.log⟩ ((withNode w).setCell ⟨rowB N k, j, none⟩ (entV N (.inner t.n))) := by
  have hp := h.pos
  have hs := h.size
  have hr : rowB N t.n = w.heap.size := by rw [hs]; unfold rowB; split <;> omega
  have hn : nodeB N t.n = w.heap.size + 1 := by rw [hs]; unfold nodeB; split <;> omega
  have h1 : TreeMem N f ⟨t.n + 1, t.log⟩ (withNode w) := by
    refine ⟨by simp [withNode, hs]; omega, by show 1 ≤ t.n + 1; omega, fun k' hk' => ?_, fun k' hk' => ?_, (h.leaves.alloc _).alloc _⟩
    · by_cases e : k' < t.n
      · exact ((h.row k' e).alloc _).alloc _
      · obtain rfl : k' = t.n := by simp at hk'; omega
        rw [hr]
        exact (Row.new w _ (by decide) kids_size (fun i hi => by rw [kids_at hi]; simp [fresh, entV])).alloc _
    · by_cases e : k' < t.n
      · exact ((h.node k' e).alloc _).alloc _
      · obtain rfl : k' = t.n := by simp at hk'; omega
        rw [hn]
        have := Row.new (n := 3) (f := nodeV N t.n) (w.alloc (.cells kids 144)) (cs := #[.pointer (some ⟨w.heap.size, 0, none⟩), .int .u8 0, .int .u8 0]) 138 (by decide) rfl
          (fun i hi => by rcases i with _ | _ | _ | i <;> simp [nodeV, hr]; omega)
        rw [World.size_alloc] at this
        exact this
  have h2 := h1.setRow (k := k) (j := j) (.inner t.n) (by show k < t.n + 1; omega)
  exact h2
end TreeMem

/-- The tree at its beginning. -/
theorem treeMem_first (w : World) {ls : Array Value} {tl : TypeId} (htl : tl ≠ 5) (hl : ls.size = 768) (hc : ∀ i, i < 768 → ls[i]? = some (leafV 0 i)) :
    TreeMem w.heap.size (leafV 0) ⟨1, []⟩ ((withNode w).alloc (.cells ls tl)) := by
  have e2 : (withNode w).heap.size = w.heap.size + 2 := by simp [withNode]
  refine ⟨by rw [World.size_alloc, e2]; rfl, Nat.le_refl _, fun k hk => ?_, fun k hk => ?_, ?_⟩
  · obtain rfl : k = 0 := by simp at hk; omega
    exact ((Row.new w _ (by decide) kids_size (fun i hi => by rw [kids_at hi]; simp [HP.lookL, entV])).alloc _).alloc _
  · obtain rfl : k = 0 := by simp at hk; omega
    have := Row.new (n := 3) (f := nodeV w.heap.size 0) (w.alloc (.cells kids 144)) (cs := #[.pointer (some ⟨w.heap.size, 0, none⟩), .int .u8 0, .int .u8 0]) 138 (by decide) rfl
      (fun i hi => by rcases i with _ | _ | _ | i <;> simp [nodeV, rowB]; omega)
    rw [World.size_alloc] at this
    exact this.alloc _
  · have := Row.new (n := 768) (f := leafV 0) (withNode w) (cs := ls) tl htl hl hc
    rw [e2] at this
    exact this

/-- The tree once it is built. -/
structure TreeAt (N : Nat) (w : World) : Prop where
  row : ∀ k, k < 15 → Row w (rowB N k) 256 (fun i => entV N (HP.tab k i))
  node : ∀ k, k < 15 → Row w (nodeB N k) 3 (nodeV N k)
  leaves : Row w (N + 2) 768 (leafV 256)
theorem TreeMem.at {N : Nat} {w : World} (h : TreeMem N (leafV 256) ⟨15, HP.finalL⟩ w) : TreeAt N w := ⟨h.row, h.node, h.leaves⟩
theorem TreeAt.kept {N c : Nat} {w w' : World} (h : TreeAt N w) (hk : Lib.OthersKept 5 (some c) w w') (hc : c < N) : TreeAt N w' :=
  ⟨fun k hk' => (h.row k hk').kept hk (by have := @le_rowB N k; omega), fun k hk' => (h.node k hk').kept hk (by have := @le_nodeB N k; omega), h.leaves.kept hk (by omega)⟩
theorem TreeAt.drew {N : Nat} {w : World} (h : TreeAt N w) : TreeAt N w.drew := ⟨h.row, h.node, h.leaves⟩
end Go.Proofs.YtmlnmllnlekcgaaDoor
/-
  The dynamic table in memory, and what its functions do with it.
-/
namespace Go.Proofs.YtmlnmllnlekcgaaDoor
open Go.ChangeShapes Go.WideShapes Go.ChangeAt Go.RowKit

/-- Only blocks of F have changed. -/
structure Upd (F : Nat → Prop) (w w' : World) : Prop where
  os : w'.os = w.os
  tape : w'.tape = w.tape
  output : w'.output = w.output
  size : w.heap.size ≤ w'.heap.size
  block : ∀ k, k < w.heap.size → ¬ F k → w'.heap[k]? = w.heap[k]?
namespace Upd
variable {F G : Nat → Prop} {w w1 w2 : World}
theorem refl (F : Nat → Prop) (w : World) : Upd F w w := ⟨rfl, rfl, rfl, Nat.le_refl _, fun _ _ _ => rfl⟩
theorem trans (h : Upd F w w1) (k : Upd G w1 w2) (hG : ∀ i, i < w.heap.size → G i → F i) : Upd F w w2 :=
  ⟨k.os.trans h.os, k.tape.trans h.tape, k.output.trans h.output, Nat.le_trans h.size k.size, fun i hi hn => (k.block i (Nat.lt_of_lt_of_le hi h.size) fun hg => hn (hG i hi hg)).trans (h.block i hi hn)⟩
theorem step (h : Upd F w w1) (k : Upd F w1 w2) : Upd F w w2 := h.trans k fun _ _ h => h
theorem mono (h : Upd F w w1) (hG : ∀ i, F i → G i) : Upd G w w1 := ⟨h.os, h.tape, h.output, h.size, fun i hi hn => h.block i hi fun hf => hn (hG i hf)⟩
theorem of_grown {row : Option Nat} (h : w.grownBy w1 row) (hF : ∀ k, row = some k → F k) : Upd F w w1 := ⟨h.os, h.tape, h.output, h.size, fun k hk hn => h.block k hk fun e => hn (hF k e.symm)⟩
theorem of_below (h : Below w.heap.size w w1) : Upd F w w1 := ⟨h.os, h.tape, h.output, h.size, fun k hk _ => h.block k hk⟩
theorem below (h : Upd F w w1) {B : Nat} (hB : B ≤ w.heap.size) (hF : ∀ k, F k → B ≤ k) : Below B w w1 := ⟨h.os, h.tape, h.output, h.size, fun k hk => h.block k (by omega) fun hf => by have := hF k hf; omega⟩
theorem alloc (h : Upd F w w1) (o : Obj) : Upd F w (w1.alloc o) := h.step ⟨rfl, rfl, rfl, by simp, fun k hk _ => by show (w1.heap.push o)[k]? = _; rw [Array.getElem?_push, if_neg (Nat.ne_of_lt hk)]⟩
theorem setCell (h : Upd F w w1) {a : Addr} (ha : F a.block ∨ w.heap.size ≤ a.block) (u : Value) : Upd F w (w1.setCell a u) := by
  refine ⟨h.os, h.tape, h.output, by rw [World.size_setCell]; exact h.size, fun k hk hn => ?_⟩
  rw [Below.heap_setCell _ _ _ _ (fun e => ?_), h.block k hk hn]
  rcases ha with ha | ha
  · exact hn (e ▸ ha)
  · omega
theorem drew (h : Upd F w w1) : Upd F w w1.drew := h.step ⟨rfl, rfl, rfl, Nat.le_refl _, fun _ _ _ => rfl⟩
theorem drewN (h : Upd F w w1) (n : Nat) : Upd F w (w1.drewN n) := h.step ⟨rfl, rfl, rfl, Nat.le_refl _, fun _ _ _ => rfl⟩
end Upd

def eCells (e : HD.Bs × HD.Bs) : List Value := [.string ⟨e.1.toArray⟩, .string ⟨e.2.toArray⟩, .bool false]
def entCells (l : List (HD.Bs × HD.Bs)) : List Value := l.flatMap eCells
theorem entCells_len (l : List (HD.Bs × HD.Bs)) : (entCells l).length = l.length * 3 := by
  induction l with
  | nil => rfl
  | cons e l ih => simp only [entCells, List.flatMap_cons, List.length_append] at ih ⊢; rw [ih]; simp [eCells]; omega
theorem entCells_append (a b : List (HD.Bs × HD.Bs)) : entCells (a ++ b) = entCells a ++ entCells b := by simp [entCells]
theorem entCells_drop (l : List (HD.Bs × HD.Bs)) (k : Nat) : (entCells l).drop (k * 3) = entCells (l.drop k) := by
  induction l generalizing k with
  | nil => simp [entCells]
  | cons e l ih =>
    cases k with
    | zero => simp
    | succ k =>
      have : entCells (e :: l) = eCells e ++ entCells l := rfl
      rw [this, List.drop_succ_cons, ← ih k, show (k + 1) * 3 = 3 + k * 3 by omega, ← List.drop_drop]
      rfl
theorem entCells_at (l : List (HD.Bs × HD.Bs)) (k : Nat) (hk : k < l.length) : (entCells l)[k * 3]? = some (.string ⟨l[k].1.toArray⟩) ∧ (entCells l)[k * 3 + 1]? = some (.string ⟨l[k].2.toArray⟩) ∧ (entCells l)[k * 3 + 2]? = some (.bool false) := by
  have h := entCells_drop l k
  rw [List.drop_eq_getElem_cons hk] at h
  have key : ∀ j, (entCells l)[k * 3 + j]? = (entCells (l[k] :: l.drop (k + 1)))[j]? := fun j => by rw [← h, List.getElem?_drop]
  exact ⟨key 0, key 1, key 2⟩

/-- The table's cells lie at the head of block b; its entries, its maps. -/
structure TabMem (B : Nat) (w : World) (b n : Nat) (f : Nat → Value) (ents : List (HD.Bs × HD.Bs)) (cnt : Nat) (ev : Value) (m1 m2 : Nat) (l1 : List (HD.Bs × Nat)) (l2 : List ((HD.Bs × HD.Bs) × Nat)) : Prop where
  row : Row w b n f
  big : 8 ≤ n
  c0 : f 0 = .bool false
  c1 : f 1 = ev
  c2 : f 2 = .int .u64 (cnt : Nat)
  c3 : f 3 = .map (some m1)
  c4 : f 4 = .map (some m2)
  own : w.ownsRow B 54 3 ev ents.length (entCells ents)
  ne : ev.ownBlock ≠ some b
  mm : m1 ≠ m2
  lo : B ≤ b ∧ B ≤ m1 ∧ B ≤ m2
  map1 : MapMem encS w m1 l1
  map2 : MapMem encP w m2 l2
def tabOwn (b : Nat) (ev : Value) (m1 m2 : Nat) : Nat → Prop := fun k => k = b ∨ ev.ownBlock = some k ∨ k = m1 ∨ k = m2

theorem Row.isCells {w : World} {b n : Nat} {f : Nat → Value} (h : Row w b n f) {es : Array MapEntry} {c : Nat} : w.heap[b]? ≠ some (.map es c) := by
  obtain ⟨cs, t, hb, -⟩ := h
  rw [hb]; intro e; injection e with e; cases e

theorem ownsRow_of_heap {w w' : World} {B e size n : Nat} {v : Value} {xs : List Value} (h : w.ownsRow B e size v n xs) (hk : ∀ g, v.ownBlock = some g → w'.heap[g]? = w.heap[g]?) : w'.ownsRow B e size v n xs := by
  refine ⟨h.1, ?_⟩
  rcases h.2 with h' | ⟨g, cap, cur, e1, hB, hg, r⟩
  · exact Or.inl h'
  · exact Or.inr ⟨g, cap, cur, e1, hB, (hk g (by rw [e1]; rfl)).trans hg, r⟩

namespace TabMem
variable {B : Nat} {w w' : World} {b n : Nat} {f : Nat → Value} {ents : List (HD.Bs × HD.Bs)} {cnt : Nat} {ev : Value} {m1 m2 : Nat} {l1 : List (HD.Bs × Nat)} {l2 : List ((HD.Bs × HD.Bs) × Nat)}
theorem frame (h : TabMem B w b n f ents cnt ev m1 m2 l1 l2) (hk : ∀ k, tabOwn b ev m1 m2 k → w'.heap[k]? = w.heap[k]?) : TabMem B w' b n f ents cnt ev m1 m2 l1 l2 :=
  ⟨h.row.of_heap (hk b (Or.inl rfl)), h.big, h.c0, h.c1, h.c2, h.c3, h.c4, ownsRow_of_heap h.own fun g hg => hk g (Or.inr (Or.inl hg)), h.ne, h.mm, h.lo,
    h.map1.of_heap (hk m1 (Or.inr (Or.inr (Or.inl rfl)))), h.map2.of_heap (hk m2 (Or.inr (Or.inr (Or.inr rfl))))⟩
theorem own_lt (h : TabMem B w b n f ents cnt ev m1 m2 l1 l2) {k : Nat} (hk : tabOwn b ev m1 m2 k) : k < w.heap.size := by
  rcases hk with rfl | hk | rfl | rfl
  · exact h.row.lt
  · exact (h.own.lt k hk).2
  · exact h.map1.lt
  · exact h.map2.lt
theorem own_ge (h : TabMem B w b n f ents cnt ev m1 m2 l1 l2) {k : Nat} (hk : tabOwn b ev m1 m2 k) : B ≤ k := by
  rcases hk with rfl | hk | rfl | rfl
  · exact h.lo.1
  · exact (h.own.lt k hk).1
  · exact h.lo.2.1
  · exact h.lo.2.2
theorem alloc (h : TabMem B w b n f ents cnt ev m1 m2 l1 l2) (o : Obj) : TabMem B (w.alloc o) b n f ents cnt ev m1 m2 l1 l2 :=
  h.frame fun k hk => by show (w.heap.push o)[k]? = _; rw [Array.getElem?_push, if_neg (Nat.ne_of_lt (h.own_lt hk))]
theorem drew (h : TabMem B w b n f ents cnt ev m1 m2 l1 l2) : TabMem B w.drew b n f ents cnt ev m1 m2 l1 l2 := h.frame fun _ _ => rfl
theorem drewN (h : TabMem B w b n f ents cnt ev m1 m2 l1 l2) (q : Nat) : TabMem B (w.drewN q) b n f ents cnt ev m1 m2 l1 l2 := h.frame fun _ _ => rfl
theorem below (h : TabMem B w b n f ents cnt ev m1 m2 l1 l2) (hb : Below w.heap.size w w') : TabMem B w' b n f ents cnt ev m1 m2 l1 l2 := h.frame fun k hk => hb.block k (h.own_lt hk)
theorem b_m1 (h : TabMem B w b n f ents cnt ev m1 m2 l1 l2) : b ≠ m1 := fun e => by
  obtain ⟨_, es, c, hb, -⟩ := h.map1
  exact h.row.isCells (e ▸ hb)
theorem b_m2 (h : TabMem B w b n f ents cnt ev m1 m2 l1 l2) : b ≠ m2 := fun e => by
  obtain ⟨_, es, c, hb, -⟩ := h.map2
  exact h.row.isCells (e ▸ hb)
theorem ev_m1 (h : TabMem B w b n f ents cnt ev m1 m2 l1 l2) : ev.ownBlock ≠ some m1 := fun e => by
  obtain ⟨_, es, c, hb, -⟩ := h.map1
  obtain ⟨c', fz, hg⟩ := Lib.ownsRow_kind h.own m1 e
  rw [hb] at hg; injection hg with hg; cases hg
theorem ev_m2 (h : TabMem B w b n f ents cnt ev m1 m2 l1 l2) : ev.ownBlock ≠ some m2 := fun e => by
  obtain ⟨_, es, c, hb, -⟩ := h.map2
  obtain ⟨c', fz, hg⟩ := Lib.ownsRow_kind h.own m2 e
  rw [hb] at hg; injection hg with hg; cases hg
/-- The first map has changed. -/
theorem put1 {l : List (HD.Bs × Nat)} (h : TabMem B w b n f ents cnt ev m1 m2 l1 l2) (hm : MapMem encS w' m1 l) (hg : w.grownBy w' (some m1)) : TabMem B w' b n f ents cnt ev m1 m2 l l2 :=
  ⟨h.row.of_heap (hg.block b h.row.lt (fun e => h.b_m1 (Option.some.inj e))), h.big, h.c0, h.c1, h.c2, h.c3, h.c4, ownsRow_of_heap h.own fun g hgg => hg.block g (h.own.lt g hgg).2 (fun e => h.ev_m1 (by rw [hgg, e])), h.ne, h.mm, h.lo,
    hm, h.map2.of_heap (hg.block m2 h.map2.lt (fun e => h.mm (Option.some.inj e).symm))⟩
/-- The second map has changed. -/
theorem put2 {l : List ((HD.Bs × HD.Bs) × Nat)} (h : TabMem B w b n f ents cnt ev m1 m2 l1 l2) (hm : MapMem encP w' m2 l) (hg : w.grownBy w' (some m2)) : TabMem B w' b n f ents cnt ev m1 m2 l1 l :=
  ⟨h.row.of_heap (hg.block b h.row.lt (fun e => h.b_m2 (Option.some.inj e))), h.big, h.c0, h.c1, h.c2, h.c3, h.c4, ownsRow_of_heap h.own fun g hgg => hg.block g (h.own.lt g hgg).2 (fun e => h.ev_m2 (by rw [hgg, e])), h.ne, h.mm, h.lo,
    h.map1.of_heap (hg.block m1 h.map1.lt (fun e => h.mm (Option.some.inj e))), hm⟩
end TabMem

theorem zero_u64 : ∀ w, (zeroValue 65).run Tryd.prog w = .ok (.int .u64 0) w := zero_of (by kernel_rfl)
theorem look_name {w : World} {m : Nat} {l : List (HD.Bs × Nat)} (h : MapMem encS w m l) (k : HD.Bs) : (Instr.lookup 66 (.map (some m)) (.string ⟨k.toArray⟩) false).run Tryd.prog w = .ok (.int .u64 ((mget l k).getD 0 : Nat)) w :=
  run_mlook (key_string Tryd.underlying9) Tryd.underlying66 zero_u64 h k
theorem look_pair {w : World} {m : Nat} {l : List ((HD.Bs × HD.Bs) × Nat)} (h : MapMem encP w m l) (k : HD.Bs × HD.Bs) : (Instr.lookup 67 (.map (some m)) (.agg #[.string ⟨k.1.toArray⟩, .string ⟨k.2.toArray⟩]) false).run Tryd.prog w = .ok (.int .u64 ((mget l k).getD 0 : Nat)) w :=
  run_mlook key_pair Tryd.underlying67 zero_u64 h k

/-- The number of entries. -/
theorem len_any (b k c : Nat) (a : Option Addr) (w : World) (h : w.cell? ⟨b, 1, none⟩ = some (.slice a k c)) :
    Calls Tryd.prog 50 #[.pointer (some ⟨b, 0, none⟩)] w fun e w' => e = .returned (.int .i64 (k : Nat)) ∧ w = w' := by
  go_enter Tryd.func50, Tryd.ntmps50
  go_wp2
  go_ret
  exact ⟨rfl, rfl⟩

/-- An entry's size. -/
theorem size_any (n v : HD.Bs) (s : Bool) (w : World) (h : n.length + v.length + 32 < 2 ^ 32) :
    Calls Tryd.prog 51 #[.agg #[.string ⟨n.toArray⟩, .string ⟨v.toArray⟩, .bool s]] w fun e w' => e = .returned (.int .u32 ((n.length + v.length + 32 : Nat) : Int)) ∧ Below w.heap.size w w' := by
  go_enter Tryd.func51, Tryd.ntmps51
  go_wp2
  go_ret
  exact ⟨ret_int (by omega), (Below.refl _ _).alloc (Nat.le_refl _) _⟩
end Go.Proofs.YtmlnmllnlekcgaaDoor
/-
  The contract of evictOldest.
-/
namespace Go.Proofs.YtmlnmllnlekcgaaDoor
open Go.ChangeShapes Go.WideShapes Go.ChangeAt Go.RowKit

/-- What is left of the two maps when entries go; the first one's number is id. -/
def delS : Nat → List (HD.Bs × HD.Bs) → List (HD.Bs × Nat) → List (HD.Bs × Nat)
  | _, [], l => l
  | id, e :: es, l => delS (id + 1) es (if (mget l e.1).getD 0 = id then mdel l e.1 else l)
def delP : Nat → List (HD.Bs × HD.Bs) → List ((HD.Bs × HD.Bs) × Nat) → List ((HD.Bs × HD.Bs) × Nat)
  | _, [], l => l
  | id, e :: es, l => delP (id + 1) es (if (mget l e).getD 0 = id then mdel l e else l)
theorem delS_snoc (e : HD.Bs × HD.Bs) : ∀ (es : List (HD.Bs × HD.Bs)) (id : Nat) (l : List (HD.Bs × Nat)), delS id (es ++ [e]) l = if (mget (delS id es l) e.1).getD 0 = id + es.length then mdel (delS id es l) e.1 else delS id es l
  | [], id, l => rfl
  | x :: es, id, l => by
    have h := delS_snoc e es (id + 1) (if (mget l x.1).getD 0 = id then mdel l x.1 else l)
    rw [show id + 1 + es.length = id + (x :: es).length by simp; omega] at h
    exact h
theorem delP_snoc (e : HD.Bs × HD.Bs) : ∀ (es : List (HD.Bs × HD.Bs)) (id : Nat) (l : List ((HD.Bs × HD.Bs) × Nat)), delP id (es ++ [e]) l = if (mget (delP id es l) e).getD 0 = id + es.length then mdel (delP id es l) e else delP id es l
  | [], id, l => rfl
  | x :: es, id, l => by
    have h := delP_snoc e es (id + 1) (if (mget l x).getD 0 = id then mdel l x else l)
    rw [show id + 1 + es.length = id + (x :: es).length by simp; omega] at h
    exact h

theorem run_copy_rows {P : Program} (w : World) (dT sT ty elem : TypeId) (g dLen dCap : Nat) (sp : Option Addr) (sLen sCap size : Nat) (cur : Array Value) (t : TypeId) (cs : List Value)
    (hu : P.underlying dT = some (.slice elem)) (hs : (P.info? elem).map (·.size) = some size)
    (hg : w.heap[g]? = some (.cells cur t (0, 0))) (hn : cs.length = Nat.min sLen dLen * size) (hsp : ∃ a, sp = some a ∧ ∀ j v, cs[j]? = some v → w.cell? (a.add j) = some v) (hfit : cs.length ≤ cur.size) (h1 : ∀ v ∈ cs, v.oneCell' = true) :
    (Builtin.copy_ #[dT, sT] ty #[.slice (some ⟨g, 0, none⟩) dLen dCap, .slice sp sLen sCap]).run P w =
      .ok (goInt (Nat.min sLen dLen)) (w.setRow g (cs ++ cur.toList.drop cs.length).toArray) := by
  obtain ⟨a, rfl, hsrc⟩ := hsp
  have hl := run_loadCells_list (P := P) w a cs hsrc
  have hst := run_storeCells_at P g 0 t cs 0 cur w hg (by simpa using hfit) h1
  cases hq : P.info? elem with
  | none => simp [hq] at hs
  | some i =>
    have hi : i.size = size := by simpa [hq] using hs
    rw [hn] at hl
    simp [Builtin.copy_, run_underlying hu, Builtin.lenOf, Builtin.firstCells, sizeOf, typeInfo, hq, hi, hl, hst]
theorem wpList_copy_rows {P : Program} {w : World} {ops : Array Oper} {rest : List Oper} {o : Oper} {a : Act} {Q : Exit → Act → World → Prop} (hgd : o.guard = none) (d s : Operand) (dT sT : TypeId)
    (ho : o.op = .call { callee := .builtin .copy, args := #[d, s], argTypes := #[dT, sT] }) (elem : TypeId) (g dLen dCap : Nat) (sp : Option Addr) (sLen sCap size : Nat) (hd : a.eval d = .slice (some ⟨g, 0, none⟩) dLen dCap) (hs : a.eval s = .slice sp sLen sCap)
    (hu : P.underlying dT = some (.slice elem)) (hz : (P.info? elem).map (·.size) = some size) (cur : Array Value) (t : TypeId) (cs : List Value)
    (hg : w.heap[g]? = some (.cells cur t (0, 0))) (hn : cs.length = Nat.min sLen dLen * size) (hsp : ∃ a, sp = some a ∧ ∀ j v, cs[j]? = some v → w.cell? (a.add j) = some v) (hfit : cs.length ≤ cur.size) (h1 : ∀ v ∈ cs, v.oneCell' = true)
    (h : ∀ w', w'.heap[g]? = some (.cells (cs ++ cur.toList.drop cs.length).toArray t (0, 0)) → w.grownBy w' (some g) → wpList P ops Q rest (a.put o.dst (goInt (Nat.min sLen dLen))) w') : wpList P ops Q (o :: rest) a w := by
  refine wpList_plain hgd fun K hK => ?_
  have hrun := run_copy_rows (P := P) w dT sT o.type elem g dLen dCap sp sLen sCap size cur t cs hu hz hg hn hsp hfit h1
  unfold Oper.wp
  simp [execOp, ho, resolve, invoke, builtin, hd, hs, hrun, Result.andThen]
  refine hK _ _ (h _ (setRow_heap w g cur _ t _ hg) ⟨rfl, rfl, rfl, by simp [World.setRow], fun k hk hne => ?_⟩)
  simp only [World.setRow, Array.getElem?_modify]
  rw [if_neg (fun e => hne (by rw [e]))]
theorem take_set_ge {l : List Value} {n i : Nat} (h : n ≤ i) (v : Value) : (l.set i v).take n = l.take n := by
  apply List.ext_getElem?
  intro j
  simp only [List.getElem?_take]
  by_cases hj : j < n
  · rw [if_pos hj, if_pos hj, List.getElem?_set_ne (by omega)]
  · rw [if_neg hj, if_neg hj]
theorem len_same (b k c : Nat) (a : Option Addr) (w : World) (h : w.cell? ⟨b, 1, none⟩ = some (.slice a k c)) :
    Calls Tryd.prog 50 #[.pointer (some ⟨b, 0, none⟩)] w fun e w' => e = .returned (.int .i64 (k : Nat)) ∧ w' = w := (len_any b k c a w h).mono fun _ _ ⟨h1, h2⟩ => ⟨h1, h2.symm⟩
theorem infoHF : (Tryd.prog.info? 54).map (·.size) = some 3 := by kernel_rfl
theorem eCells_one (l : List (HD.Bs × HD.Bs)) : ∀ v ∈ entCells l, v.oneCell' = true := by
  intro v hv
  simp only [entCells, List.mem_flatMap] at hv
  obtain ⟨e, -, he⟩ := hv
  simp [eCells] at he
  rcases he with rfl | rfl | rfl <;> rfl

/-- Behind an eviction: the table's fields. -/
def evF (f : Nat → Value) (ev : Value) (cnt : Nat) : Nat → Value := fun i => if i = 1 then ev else if i = 2 then .int .u64 (cnt : Nat) else f i

theorem evict_end {B g cap k : Nat} {wo wr : World} {b n : Nat} {f : Nat → Value} {ents : List (HD.Bs × HD.Bs)} {cnt m1 m2 : Nat} {l1 : List (HD.Bs × Nat)} {l2 : List ((HD.Bs × HD.Bs) × Nat)} {cur : Array Value}
    (HM : TabMem B wo b n f ents cnt (.slice (some ⟨g, 0, none⟩) ents.length cap) m1 m2 l1 l2) (hr : Row wr b n f) (hc : wr.heap[g]? = some (.cells cur 54 (0, 0))) (hs : cur.size = cap * 3)
    (ht : cur.toList.take ((ents.length - k) * 3) = entCells (ents.drop k)) (hu : Upd (fun i => i = g) wo wr) (hk : k ≤ ents.length) (hcap : ents.length ≤ cap) (hm : cap ≤ maxLen) (hB : B ≤ g) (hbg : b ≠ g)
    {v1 v2 : Value} (hv1 : v1 = .slice (some ⟨g, 0, none⟩) (ents.length - k) cap) (hv2 : v2 = .int .u64 ((cnt + k : Nat) : Int)) (q : Nat) :
    TabMem B (((wr.setCell ⟨b, 1, none⟩ v1).drewN q).setCell ⟨b, 2, none⟩ v2) b n (evF f v1 (cnt + k)) (ents.drop k) (cnt + k) v1 m1 m2 l1 l2 := by
  have hbig := HM.big
  have hgm1 : g ≠ m1 := fun e => HM.ev_m1 (by rw [← e]; rfl)
  have hgm2 : g ≠ m2 := fun e => HM.ev_m2 (by rw [← e]; rfl)
  have hother : ∀ i, b ≠ i → ((((wr.setCell ⟨b, 1, none⟩ v1).drewN q).setCell ⟨b, 2, none⟩ v2)).heap[i]? = wr.heap[i]? := fun i hi => by
    rw [Below.heap_setCell _ _ _ _ (fun e => hi e.symm)]
    show (wr.setCell ⟨b, 1, none⟩ v1).heap[i]? = _
    rw [Below.heap_setCell _ _ _ _ (fun e => hi e.symm)]
  have hrow : Row (((wr.setCell ⟨b, 1, none⟩ v1).drewN q).setCell ⟨b, 2, none⟩ v2) b n (evF f v1 (cnt + k)) := by
    have h1 : Row ((wr.setCell ⟨b, 1, none⟩ v1).drewN q) b n _ := (hr.set 1 v1).of_heap rfl
    refine (h1.set 2 v2).congr fun i _ => ?_
    unfold evF
    by_cases h2 : i = 2
    · subst h2; simp [hv2]
    · by_cases h1 : i = 1 <;> simp [h1, h2]
  refine ⟨hrow, hbig, by simp [evF, HM.c0], by simp [evF], by simp [evF], by simp [evF, HM.c3], by simp [evF, HM.c4], ?_, ?_, HM.mm, HM.lo, ?_, ?_⟩
  · refine ⟨by rw [entCells_len], Or.inr ⟨g, cap, cur, by rw [hv1, List.length_drop], hB, (hother g hbg).trans hc, by rw [List.length_drop]; omega, hm, hs, by rw [List.length_drop]; exact ht⟩⟩
  · rw [hv1]; intro e; exact hbg (Option.some.inj e).symm
  · exact HM.map1.of_heap ((hother m1 HM.b_m1).trans (hu.block m1 HM.map1.lt (fun e => hgm1 e.symm)))
  · exact HM.map2.of_heap ((hother m2 HM.b_m2).trans (hu.block m2 HM.map2.lt (fun e => hgm2 e.symm)))

set_option maxHeartbeats 4000000 in
set_option maxRecDepth 100000 in
theorem evictOldest_some (B g cap q : Nat) (w : World) (b n : Nat) (f : Nat → Value) (ents : List (HD.Bs × HD.Bs)) (cnt m1 m2 : Nat) (l1 : List (HD.Bs × Nat)) (l2 : List ((HD.Bs × HD.Bs) × Nat))
    (hT : TabMem B w b n f ents cnt (.slice (some ⟨g, 0, none⟩) ents.length cap) m1 m2 l1 l2) (hq : q ≤ ents.length) (hc : cnt + ents.length < 2 ^ 62) :
    Calls Tryd.prog 52 #[.pointer (some ⟨b, 0, none⟩), .int .i64 (q : Nat)] w fun e w' => e = .returned (.tuple #[]) ∧
      TabMem B w' b n (evF f (.slice (some ⟨g, 0, none⟩) (ents.length - q) cap) (cnt + q)) (ents.drop q) (cnt + q) (.slice (some ⟨g, 0, none⟩) (ents.length - q) cap) m1 m2 (delS (cnt + 1) (ents.take q) l1) (delP (cnt + 1) (ents.take q) l2) ∧
      Upd (tabOwn b (.slice (some ⟨g, 0, none⟩) ents.length cap) m1 m2) w w' := by
  have HT := Lib.hid hT
  have hc1 := hT.row.cell' (i := 1) (by have := hT.big; omega) hT.c1
  clear hT
  have hqI : decide (ents.length < q) = false := by simp; omega
  go_enter Tryd.func52, Tryd.ntmps52
  go_wp2_with fail
  refine (len_any b _ _ _ _ hc1).mono ?_
  rintro e w0 ⟨rfl, rfl⟩
  go_wp2_with fail
  go_loopw [4] (fun i wr => ∃ k : Nat, k ≤ q ∧ i = .int .i64 (k : Nat) ∧ TabMem B wr b n f ents cnt (.slice (some ⟨g, 0, none⟩) ents.length cap) m1 m2 (delS (cnt + 1) (ents.take k) l1) (delP (cnt + 1) (ents.take k) l2) ∧ Upd (tabOwn b (.slice (some ⟨g, 0, none⟩) ents.length cap) m1 m2) w wr) (fun i _ => q - (intOf i).toNat)
  case atStart => exact ⟨0, Nat.zero_le _, rfl, by simpa [delS, delP] using HT.out, Upd.refl _ _⟩
  case round =>
    obtain ⟨k, hk, rfl, hm, hu⟩ := hrel
    have HM := Lib.hid hm
    have HU := Lib.hid hu
    have c1 := hm.row.cell' (i := 1) (by have := hm.big; omega) hm.c1
    have c2 := hm.row.cell' (i := 2) (by have := hm.big; omega) hm.c2
    have c3 := hm.row.cell' (i := 3) (by have := hm.big; omega) hm.c3
    have c4 := hm.row.cell' (i := 4) (by have := hm.big; omega) hm.c4
    have hbl := hm.row.lt
    clear hm hu hc1 HT
    by_cases hlt : k < q
    · have hke : k < ents.length := by omega
      obtain ⟨x1, x2, x3⟩ := entCells_at ents k hke
      have hgr := (HM.out.own.cells (g := g) rfl)
      have e1 := hgr _ _ x1
      have e2 := hgr _ _ x2
      have e3 := hgr _ _ x3
      rw [Lib.addr_add, Nat.zero_add] at e1 e2 e3
      have hgl := World.block_lt_of_cell? wr _ e1
      obtain ⟨es, hes⟩ : ∃ es, es = ents[k] := ⟨_, rfl⟩
      rw [← hes] at e1 e2
      have Hes := Lib.hid hes
      clear hes x1 x2 x3 hgr
      have hS := delS_snoc es (ents.take k) (cnt + 1) l1
      have hP := delP_snoc es (ents.take k) (cnt + 1) l2
      rw [List.length_take, Nat.min_eq_left (by omega), Hes.out, ← List.take_succ_eq_append_getElem hke, ← Hes.out] at hS hP
      generalize delS (cnt + 1) (ents.take k) l1 = L1 at *
      generalize delP (cnt + 1) (ents.take k) l2 = L2 at *
      have HS := Lib.hid hS
      have HP := Lib.hid hP
      clear hS hP
      have HMW := Lib.hid (HM.out.alloc (.cells #[.string ⟨es.1.toArray⟩, .string ⟨es.2.toArray⟩, .bool false] 54))
      have HUW := Lib.hid (HU.out.alloc (.cells #[.string ⟨es.1.toArray⟩, .string ⟨es.2.toArray⟩, .bool false] 54))
      have look1 := fun q => look_name (HMW.out.drewN q).map1 es.1
      obtain ⟨x, hx⟩ : ∃ x, x = (mget L1 es.1).getD 0 := ⟨_, rfl⟩
      rw [← hx] at look1 HS
      have Hx := Lib.hid hx
      clear hx
      by_cases hxi : x = cnt + 1 + k
      · have hxI : ((x : Int) == (cnt : Int) + (k : Int) + 1) = true := by rw [beq_iff_eq]; omega
        rw [if_pos hxi] at HS
        have Hxi := Lib.hid hxi
        clear hxi
        go_wp2_with fail
        go_quiet (fail)
        go_wp2_with fail
        refine stillTail 6 (by kernel_rfl) (by kernel_rfl) ?_
        simp only [List.take_succ_cons, List.take_zero, List.drop_succ_cons, List.drop_zero]
        repeat (refine wpStill_step (fun K hK => ?_); go_simp; (refine hK _ ?_; clear hK K))
        refine wpStill_nil ?_
        refine wpList_mdel (key_string Tryd.underlying9) Tryd.underlying66 (b := m1) (l := L1) (by exact HMW.out.map1) es.1 9 rfl (.tmp 46) (.tmp 48) rfl rfl rfl ?_
        intro w1 hm1 hg1 hz1
        have HM1 := Lib.hid (TabMem.put1 HMW.out hm1 ⟨hg1.os, hg1.tape, hg1.output, hg1.size, hg1.block⟩); have HU1 := Lib.hid (Upd.step HUW.out ⟨hg1.os, hg1.tape, hg1.output, hg1.size, fun i hi hn => hg1.block i hi (fun e => hn (Or.inr (Or.inr (Or.inl (Option.some.inj e)))))⟩); have hbx := (hg1.block wr.heap.size (by show _ < (wr.alloc _).heap.size; simp) (fun e => by have := HM.out.map1.lt; have := Option.some.inj e; omega)).trans (heap_alloc_new wr (.cells #[.string ⟨es.1.toArray⟩, .string ⟨es.2.toArray⟩, .bool false] 54)); clear hm1 hg1 hz1
        clear HMW HUW
        have g1 := HM1.out.row.cell' (i := 1) (by have := HM1.out.big; omega) HM1.out.c1
        have g2 := HM1.out.row.cell' (i := 2) (by have := HM1.out.big; omega) HM1.out.c2
        have g3 := HM1.out.row.cell' (i := 3) (by have := HM1.out.big; omega) HM1.out.c3
        have g4 := HM1.out.row.cell' (i := 4) (by have := HM1.out.big; omega) HM1.out.c4
        have b0 := Lib.cell_of_heap hbx 0
        have b1 := Lib.cell_of_heap hbx 1
        have b2 := Lib.cell_of_heap hbx 2
        rw [show ((#[Value.string ⟨es.1.toArray⟩, .string ⟨es.2.toArray⟩, .bool false] : Array Value))[0]? = some (.string ⟨es.1.toArray⟩) from rfl] at b0
        rw [show ((#[Value.string ⟨es.1.toArray⟩, .string ⟨es.2.toArray⟩, .bool false] : Array Value))[1]? = some (.string ⟨es.2.toArray⟩) from rfl] at b1
        rw [show ((#[Value.string ⟨es.1.toArray⟩, .string ⟨es.2.toArray⟩, .bool false] : Array Value))[2]? = some (.bool false) from rfl] at b2
        have hbxl := Lib.lt_of_heap hbx
        have hbl1 := HM1.out.row.lt
        have HMV := Lib.hid (HM1.out.alloc (.cells #[.string ⟨es.1.toArray⟩, .string ⟨es.2.toArray⟩] 115))
        have HUV := Lib.hid (HU1.out.alloc (.cells #[.string ⟨es.1.toArray⟩, .string ⟨es.2.toArray⟩] 115))
        have look2 := fun q => look_pair (HMV.out.drewN q).map2 es
        obtain ⟨y, hy⟩ : ∃ y, y = (mget L2 es).getD 0 := ⟨_, rfl⟩
        rw [← hy] at look2 HP
        have Hy := Lib.hid hy
        clear hy hbx c1 c2 c3 c4 e1 e2 e3 look1 hxI hbl
        by_cases hyi : y = cnt + 1 + k
        · have hyI : ((y : Int) == (cnt : Int) + (k : Int) + 1) = true := by rw [beq_iff_eq]; omega
          rw [if_pos hyi] at HP
          have Hyi := Lib.hid hyi
          clear hyi
          go_wp2_with fail
          go_quiet (fail)
          go_wp2_with fail
          refine stillTail 5 (by kernel_rfl) (by kernel_rfl) ?_
          simp only [List.take_succ_cons, List.take_zero, List.drop_succ_cons, List.drop_zero]
          repeat (refine wpStill_step (fun K hK => ?_); go_simp; (refine hK _ ?_; clear hK K))
          refine wpStill_nil ?_
          refine wpList_mdel key_pair Tryd.underlying67 (b := m2) (l := L2) (by exact HMV.out.map2) es 115 rfl (.tmp 65) (.tmp 66) rfl rfl rfl ?_
          intro w5 hm5 hg5 hz5
          have HM5 := Lib.hid (TabMem.put2 HMV.out hm5 ⟨hg5.os, hg5.tape, hg5.output, hg5.size, hg5.block⟩)
          have HU5 := Lib.hid (Upd.step HUV.out ⟨hg5.os, hg5.tape, hg5.output, hg5.size, fun i hi hn => hg5.block i hi (fun e => hn (Or.inr (Or.inr (Or.inr (Option.some.inj e)))))⟩)
          clear hm5 hg5 hz5
          go_wp2_with fail
          exact ⟨⟨k + 1, hlt, by go_num, by rw [HS.out, HP.out]; exact HM5.out, HU5.out⟩, by simp [intOf]; omega⟩
        · have hyI : ((y : Int) == (cnt : Int) + (k : Int) + 1) = false := by rw [beq_eq_false_iff_ne]; omega
          rw [if_neg hyi] at HP
          have Hyi := Lib.hid hyi
          clear hyi
          go_wp2_with fail
          go_quiet (fail)
          go_wp2_with fail
          exact ⟨⟨k + 1, hlt, by go_num, by rw [HS.out, HP.out]; exact HMV.out.frame fun _ _ => rfl, HUV.out.step ⟨rfl, rfl, rfl, Nat.le_refl _, fun _ _ _ => rfl⟩⟩, by simp [intOf]; omega⟩
      · have hxI : ((x : Int) == (cnt : Int) + (k : Int) + 1) = false := by rw [beq_eq_false_iff_ne]; omega
        rw [if_neg hxi] at HS
        have Hxi := Lib.hid hxi
        clear hxi
        go_wp2_with fail
        go_quiet (fail)
        have HM1 := Lib.hid (HMW.out.drewN nq)
        have HU1 := Lib.hid (HUW.out.drewN nq)
        have hbx : ((wr.alloc (.cells #[.string ⟨es.1.toArray⟩, .string ⟨es.2.toArray⟩, .bool false] 54)).drewN nq).heap[wr.heap.size]? = _ := heap_alloc_new wr (.cells #[.string ⟨es.1.toArray⟩, .string ⟨es.2.toArray⟩, .bool false] 54)
        clear HMW HUW look1
        generalize (wr.alloc (.cells #[.string ⟨es.1.toArray⟩, .string ⟨es.2.toArray⟩, .bool false] 54)).drewN nq = w1 at *
        have g1 := HM1.out.row.cell' (i := 1) (by have := HM1.out.big; omega) HM1.out.c1
        have g2 := HM1.out.row.cell' (i := 2) (by have := HM1.out.big; omega) HM1.out.c2
        have g3 := HM1.out.row.cell' (i := 3) (by have := HM1.out.big; omega) HM1.out.c3
        have g4 := HM1.out.row.cell' (i := 4) (by have := HM1.out.big; omega) HM1.out.c4
        have b0 := Lib.cell_of_heap hbx 0
        have b1 := Lib.cell_of_heap hbx 1
        have b2 := Lib.cell_of_heap hbx 2
        rw [show ((#[Value.string ⟨es.1.toArray⟩, .string ⟨es.2.toArray⟩, .bool false] : Array Value))[0]? = some (.string ⟨es.1.toArray⟩) from rfl] at b0
        rw [show ((#[Value.string ⟨es.1.toArray⟩, .string ⟨es.2.toArray⟩, .bool false] : Array Value))[1]? = some (.string ⟨es.2.toArray⟩) from rfl] at b1
        rw [show ((#[Value.string ⟨es.1.toArray⟩, .string ⟨es.2.toArray⟩, .bool false] : Array Value))[2]? = some (.bool false) from rfl] at b2
        have hbxl := Lib.lt_of_heap hbx
        have hbl1 := HM1.out.row.lt
        have HMV := Lib.hid (HM1.out.alloc (.cells #[.string ⟨es.1.toArray⟩, .string ⟨es.2.toArray⟩] 115))
        have HUV := Lib.hid (HU1.out.alloc (.cells #[.string ⟨es.1.toArray⟩, .string ⟨es.2.toArray⟩] 115))
        have look2 := fun q => look_pair (HMV.out.drewN q).map2 es
        obtain ⟨y, hy⟩ : ∃ y, y = (mget L2 es).getD 0 := ⟨_, rfl⟩
        rw [← hy] at look2 HP
        have Hy := Lib.hid hy
        clear hy hbx c1 c2 c3 c4 e1 e2 e3 hxI hbl
        by_cases hyi : y = cnt + 1 + k
        · have hyI : ((y : Int) == (cnt : Int) + (k : Int) + 1) = true := by rw [beq_iff_eq]; omega
          rw [if_pos hyi] at HP
          have Hyi := Lib.hid hyi
          clear hyi
          go_wp2_with fail
          go_quiet (fail)
          go_wp2_with fail
          refine stillTail 5 (by kernel_rfl) (by kernel_rfl) ?_
          simp only [List.take_succ_cons, List.take_zero, List.drop_succ_cons, List.drop_zero]
          repeat (refine wpStill_step (fun K hK => ?_); go_simp; (refine hK _ ?_; clear hK K))
          refine wpStill_nil ?_
          refine wpList_mdel key_pair Tryd.underlying67 (b := m2) (l := L2) (by exact HMV.out.map2) es 115 rfl (.tmp 65) (.tmp 66) rfl rfl rfl ?_
          intro w5 hm5 hg5 hz5
          have HM5 := Lib.hid (TabMem.put2 HMV.out hm5 ⟨hg5.os, hg5.tape, hg5.output, hg5.size, hg5.block⟩)
          have HU5 := Lib.hid (Upd.step HUV.out ⟨hg5.os, hg5.tape, hg5.output, hg5.size, fun i hi hn => hg5.block i hi (fun e => hn (Or.inr (Or.inr (Or.inr (Option.some.inj e)))))⟩)
          clear hm5 hg5 hz5
          go_wp2_with fail
          exact ⟨⟨k + 1, hlt, by go_num, by rw [HS.out, HP.out]; exact HM5.out, HU5.out⟩, by simp [intOf]; omega⟩
        · have hyI : ((y : Int) == (cnt : Int) + (k : Int) + 1) = false := by rw [beq_eq_false_iff_ne]; omega
          rw [if_neg hyi] at HP
          have Hyi := Lib.hid hyi
          clear hyi
          go_wp2_with fail
          go_quiet (fail)
          go_wp2_with fail
          exact ⟨⟨k + 1, hlt, by go_num, by rw [HS.out, HP.out]; exact HMV.out.frame fun _ _ => rfl, HUV.out.step ⟨rfl, rfl, rfl, Nat.le_refl _, fun _ _ _ => rfl⟩⟩, by simp [intOf]; omega⟩
    · obtain rfl : k = q := by omega
      obtain ⟨wo, rfl⟩ : ∃ wo : World, wo = wr := ⟨_, rfl⟩
      have hdq := entCells_drop ents k
      obtain ⟨hol, hor⟩ := HM.out.own
      rcases hor with ⟨e, _⟩ | ⟨g', cap', cur, e, hBg, hgh, hnc, hcm, hcs, htk⟩
      · cases e
      · injection e with e1 e2 e3
        injection e1 with e1
        injection e1 with e1 _ _
        subst e1 e3
        have hgl := Lib.lt_of_heap hgh
        have htk2 : cur.toList.take (ents.length * 3) = entCells ents := htk
        have Hgh := Lib.hid hgh
        have hcm2 := hcm
        unfold maxLen at hcm2
        have hD : ((entCells ents).drop (k * 3)).length = (ents.length - k) * 3 := by rw [List.length_drop, entCells_len]; omega
        clear e2 hol htk hgh
        have hsrc : ∀ (j : Nat) v, ((entCells ents).drop (k * 3))[j]? = some v → wo.cell? ⟨g, k * 3 + j, none⟩ = some v := fun j v hj => by
          rw [Lib.cell_of_heap Hgh.out, ← Array.getElem?_toList]
          rw [List.getElem?_drop, ← htk2, List.getElem?_take] at hj
          split at hj
          · exact hj
          · cases hj
        have Hsrc := Lib.hid hsrc
        have Hdq := Lib.hid hdq
        have Htk := Lib.hid htk2
        clear hsrc hdq htk2
        by_cases hck : cap = k
        · have hle : ents.length = k := by omega
          have hck2 := hck.symm
          subst hck2
          have Hle := Lib.hid hle
          clear hck hle
          go_wp2_with fail
          refine stillTail 10 (by kernel_rfl) (by kernel_rfl) ?_
          simp only [List.take_succ_cons, List.take_zero, List.drop_succ_cons, List.drop_zero]
          repeat (refine wpStill_step (fun K hK => ?_); go_simp; (refine hK _ ?_; clear hK K))
          refine wpStill_nil ?_
          refine wpList_copy_rows rfl (.tmp 70) (.tmp 76) 64 64 rfl 54 g ents.length k (some ⟨g, 0, none⟩) 0 0 3 rfl rfl Tryd.underlying64 infoHF cur 54 ((entCells ents).drop (k * 3)) (by exact Hgh.out) ?_ ⟨_, rfl, fun j v hj => by rw [List.drop_eq_nil_of_le (by rw [entCells_len, Hle.out]; exact Nat.le_refl _)] at hj; cases hj⟩ ?_ ?_ ?_
          · rw [hD, Hle.out]; simp
          · rw [hD]; omega
          · intro v hv; exact eCells_one ents v (List.mem_of_mem_drop hv)
          intro w5 h5 hg5
          have hbg : b ≠ g := fun e => HM.out.ne (by rw [e]; rfl)
          have hr5 : Row w5 b n f := HM.out.row.of_heap (hg5.block b hbl (fun e => hbg (Option.some.inj e)))
          have hU5 : Upd (fun i => i = g) wo w5 := ⟨hg5.os, hg5.tape, hg5.output, hg5.size, fun i hi hn => hg5.block i hi (fun e => hn (Option.some.inj e))⟩
          have hw5 : w5.heap[g]? = some (.cells (entCells (ents.drop k) ++ cur.toList.drop ((ents.length - k) * 3)).toArray 54 (0, 0)) := by rw [hD, Hdq.out] at h5; exact h5
          have Hr5 := Lib.hid hr5
          have HU5 := Lib.hid hU5
          have H5 := Lib.hid hw5
          have hEl : (entCells (ents.drop k)).length = (ents.length - k) * 3 := by rw [entCells_len, List.length_drop]
          have d1 := hr5.cell' (i := 1) (by have := HM.out.big; omega) HM.out.c1
          clear h5 hg5 hr5 hU5 hw5 c1 c2 c3 c4 hbl hgl
          go_wp2_with fail
          refine (len_any b _ _ _ _ d1).mono ?_
          rintro e w0 ⟨rfl, rfl⟩
          go_wp2_with fail
          go_loopw [8] (fun i w2 => ∃ (k2 : Nat) (cur2 : Array Value), ents.length - k ≤ k2 ∧ k2 ≤ ents.length ∧ i = .int .i64 (k2 : Nat) ∧ Row w2 b n f ∧ w2.heap[g]? = some (.cells cur2 54 (0, 0)) ∧ cur2.size = k * 3 ∧ cur2.toList.take ((ents.length - k) * 3) = entCells (ents.drop k) ∧ Upd (fun i => i = g) wo w2) (fun i _ => ents.length - (intOf i).toNat)
          case atStart => exact ⟨ents.length - k, _, Nat.le_refl _, by omega, by go_num, Hr5.out, H5.out, by simp [hEl, hcs]; omega, by rw [← hEl]; simp, HU5.out⟩
          case round =>
            obtain ⟨k2, cur2, hk1, hk2, rfl, hr2, hc2, hs2, ht2, hu2⟩ := hrel
            have d1 := hr2.cell' (i := 1) (by have := HM.out.big; omega) HM.out.c1
            have Hr2 := Lib.hid hr2
            have Hc2 := Lib.hid hc2
            have Ht2 := Lib.hid ht2
            have Hu2 := Lib.hid hu2
            clear hr2 hc2 ht2 hu2 Hr5 H5 HU5
            go_wp2_with fail
            refine (len_any b _ _ _ _ d1).mono ?_
            rintro e w0 ⟨rfl, rfl⟩
            by_cases hl2 : k2 < ents.length
            · obtain ⟨x0, hx0⟩ : ∃ v, wr.cell? ⟨g, k2 * 3, none⟩ = some v := ⟨_, by rw [Lib.cell_of_heap Hc2.out]; exact Array.getElem?_eq_getElem (by omega)⟩
              obtain ⟨x1, hx1⟩ : ∃ v, wr.cell? ⟨g, k2 * 3 + 1, none⟩ = some v := ⟨_, by rw [Lib.cell_of_heap Hc2.out]; exact Array.getElem?_eq_getElem (by omega)⟩
              obtain ⟨x2, hx2⟩ : ∃ v, wr.cell? ⟨g, k2 * 3 + 2, none⟩ = some v := ⟨_, by rw [Lib.cell_of_heap Hc2.out]; exact Array.getElem?_eq_getElem (by omega)⟩
              have fz := Lib.frozen_of_heap Hc2.out
              go_wp2_with fail
              refine ⟨⟨k2 + 1, _, by omega, by omega, by go_num, ((Hr2.out.setOther hbg _).setOther hbg _).setOther hbg _, Lib.heap_setCell_same (Lib.heap_setCell_same (Lib.heap_setCell_same Hc2.out _) _) _, by simp [hs2], ?_, ((Hu2.out.setCell (Or.inl rfl) _).setCell (Or.inl rfl) _).setCell (Or.inl rfl) _⟩, by simp [intOf]; omega⟩
              rw [Array.toList_setIfInBounds, Array.toList_setIfInBounds, Array.toList_setIfInBounds, take_set_ge (by omega), take_set_ge (by omega), take_set_ge (by omega)]
              exact Ht2.out
            · obtain rfl : k2 = ents.length := by omega
              have d2 := Hr2.out.cell' (i := 2) (by have := HM.out.big; omega) HM.out.c2
              have fz := fun i => Hr2.out.unfrozen i none
              obtain ⟨r, hr⟩ : ∃ r, r = ents.length - k := ⟨_, rfl⟩
              have hsub : IntKind.i64.wrap ((ents.length : Int) - (k : Int)) = (r : Int) := by rw [IntWalk.i64_in _ (by omega)]; omega
              have hrc : r ≤ k := by omega
              have Hr := Lib.hid hr
              clear hr
              go_wp2_with fail
              refine stillTail 10 (by kernel_rfl) (by kernel_rfl) ?_
              simp only [List.take_succ_cons, List.take_zero, List.drop_succ_cons, List.drop_zero]
              repeat (refine wpStill_step (fun K hK => ?_); go_simp; (first | (refine hK _ ?_; clear hK K) | (refine ⟨_, (len_same b _ _ _ _ (by exact d1)), hK _ ?_⟩; clear hK K)))
              refine wpStill_nil ?_
              go_wp2_with fail
              have hadd : IntKind.u64.wrap ((cnt : Int) + (k : Int)) = (cnt : Int) + (k : Int) := by simp only [IntKind.wrap, IntKind.bits, IntKind.signed]; simp; omega
              go_quiet (fail)
              go_wp2_with fail
              go_end0
              have er := Hr.out
              subst er
              have hu3 : Upd (tabOwn b (.slice (some ⟨g, 0, none⟩) ents.length k) m1 m2) w wr := HU.out.step (Hu2.out.mono fun i hi => Or.inr (Or.inl (by rw [hi]; rfl)))
              exact ⟨rfl, evict_end HM.out Hr2.out Hc2.out hs2 Ht2.out Hu2.out hq hnc hcm hBg hbg rfl (by simp) _, ((hu3.setCell (Or.inl (Or.inl rfl)) _).drewN _).setCell (Or.inl (Or.inl rfl)) _⟩
        · go_wp2_with fail
          refine stillTail 10 (by kernel_rfl) (by kernel_rfl) ?_
          simp only [List.take_succ_cons, List.take_zero, List.drop_succ_cons, List.drop_zero]
          repeat (refine wpStill_step (fun K hK => ?_); go_simp; (refine hK _ ?_; clear hK K))
          refine wpStill_nil ?_
          refine wpList_copy_rows rfl (.tmp 70) (.tmp 76) 64 64 rfl 54 g ents.length cap (some ⟨g, k * 3, none⟩) (ents.length - k) (cap - k) 3 rfl rfl Tryd.underlying64 infoHF cur 54 ((entCells ents).drop (k * 3)) (by exact Hgh.out) ?_ ⟨_, rfl, fun j v hj => by rw [Lib.addr_add]; exact Hsrc.out j v hj⟩ ?_ ?_ ?_
          · rw [hD]; congr 1; exact (Nat.min_eq_left (by omega)).symm
          · rw [hD]; omega
          · intro v hv; exact eCells_one ents v (List.mem_of_mem_drop hv)
          intro w5 h5 hg5
          have hbg : b ≠ g := fun e => HM.out.ne (by rw [e]; rfl)
          have hr5 : Row w5 b n f := HM.out.row.of_heap (hg5.block b hbl (fun e => hbg (Option.some.inj e)))
          have hU5 : Upd (fun i => i = g) wo w5 := ⟨hg5.os, hg5.tape, hg5.output, hg5.size, fun i hi hn => hg5.block i hi (fun e => hn (Option.some.inj e))⟩
          have hw5 : w5.heap[g]? = some (.cells (entCells (ents.drop k) ++ cur.toList.drop ((ents.length - k) * 3)).toArray 54 (0, 0)) := by rw [hD, Hdq.out] at h5; exact h5
          have Hr5 := Lib.hid hr5
          have HU5 := Lib.hid hU5
          have H5 := Lib.hid hw5
          have hEl : (entCells (ents.drop k)).length = (ents.length - k) * 3 := by rw [entCells_len, List.length_drop]
          have d1 := hr5.cell' (i := 1) (by have := HM.out.big; omega) HM.out.c1
          clear h5 hg5 hr5 hU5 hw5 c1 c2 c3 c4 hbl hgl
          go_wp2_with fail
          refine (len_any b _ _ _ _ d1).mono ?_
          rintro e w0 ⟨rfl, rfl⟩
          go_wp2_with fail
          go_loopw [8] (fun i w2 => ∃ (k2 : Nat) (cur2 : Array Value), ents.length - k ≤ k2 ∧ k2 ≤ ents.length ∧ i = .int .i64 (k2 : Nat) ∧ Row w2 b n f ∧ w2.heap[g]? = some (.cells cur2 54 (0, 0)) ∧ cur2.size = cap * 3 ∧ cur2.toList.take ((ents.length - k) * 3) = entCells (ents.drop k) ∧ Upd (fun i => i = g) wo w2) (fun i _ => ents.length - (intOf i).toNat)
          case atStart => exact ⟨ents.length - k, _, Nat.le_refl _, by omega, by go_num, Hr5.out, H5.out, by simp [hEl, hcs]; omega, by rw [← hEl]; simp, HU5.out⟩
          case round =>
            obtain ⟨k2, cur2, hk1, hk2, rfl, hr2, hc2, hs2, ht2, hu2⟩ := hrel
            have d1 := hr2.cell' (i := 1) (by have := HM.out.big; omega) HM.out.c1
            have Hr2 := Lib.hid hr2
            have Hc2 := Lib.hid hc2
            have Ht2 := Lib.hid ht2
            have Hu2 := Lib.hid hu2
            clear hr2 hc2 ht2 hu2 Hr5 H5 HU5
            go_wp2_with fail
            refine (len_any b _ _ _ _ d1).mono ?_
            rintro e w0 ⟨rfl, rfl⟩
            by_cases hl2 : k2 < ents.length
            · obtain ⟨x0, hx0⟩ : ∃ v, wr.cell? ⟨g, k2 * 3, none⟩ = some v := ⟨_, by rw [Lib.cell_of_heap Hc2.out]; exact Array.getElem?_eq_getElem (by omega)⟩
              obtain ⟨x1, hx1⟩ : ∃ v, wr.cell? ⟨g, k2 * 3 + 1, none⟩ = some v := ⟨_, by rw [Lib.cell_of_heap Hc2.out]; exact Array.getElem?_eq_getElem (by omega)⟩
              obtain ⟨x2, hx2⟩ : ∃ v, wr.cell? ⟨g, k2 * 3 + 2, none⟩ = some v := ⟨_, by rw [Lib.cell_of_heap Hc2.out]; exact Array.getElem?_eq_getElem (by omega)⟩
              have fz := Lib.frozen_of_heap Hc2.out
              go_wp2_with fail
              refine ⟨⟨k2 + 1, _, by omega, by omega, by go_num, ((Hr2.out.setOther hbg _).setOther hbg _).setOther hbg _, Lib.heap_setCell_same (Lib.heap_setCell_same (Lib.heap_setCell_same Hc2.out _) _) _, by simp [hs2], ?_, ((Hu2.out.setCell (Or.inl rfl) _).setCell (Or.inl rfl) _).setCell (Or.inl rfl) _⟩, by simp [intOf]; omega⟩
              rw [Array.toList_setIfInBounds, Array.toList_setIfInBounds, Array.toList_setIfInBounds, take_set_ge (by omega), take_set_ge (by omega), take_set_ge (by omega)]
              exact Ht2.out
            · obtain rfl : k2 = ents.length := by omega
              have d2 := Hr2.out.cell' (i := 2) (by have := HM.out.big; omega) HM.out.c2
              have fz := fun i => Hr2.out.unfrozen i none
              obtain ⟨r, hr⟩ : ∃ r, r = ents.length - k := ⟨_, rfl⟩
              have hsub : IntKind.i64.wrap ((ents.length : Int) - (k : Int)) = (r : Int) := by rw [IntWalk.i64_in _ (by omega)]; omega
              have hrc : r ≤ cap := by omega
              have Hr := Lib.hid hr
              clear hr
              go_wp2_with fail
              refine stillTail 10 (by kernel_rfl) (by kernel_rfl) ?_
              simp only [List.take_succ_cons, List.take_zero, List.drop_succ_cons, List.drop_zero]
              repeat (refine wpStill_step (fun K hK => ?_); go_simp; (first | (refine hK _ ?_; clear hK K) | (refine ⟨_, (len_same b _ _ _ _ (by exact d1)), hK _ ?_⟩; clear hK K)))
              refine wpStill_nil ?_
              go_wp2_with fail
              have hadd : IntKind.u64.wrap ((cnt : Int) + (k : Int)) = (cnt : Int) + (k : Int) := by simp only [IntKind.wrap, IntKind.bits, IntKind.signed]; simp; omega
              go_quiet (fail)
              go_wp2_with fail
              go_end0
              have er := Hr.out
              subst er
              have hu3 : Upd (tabOwn b (.slice (some ⟨g, 0, none⟩) ents.length cap) m1 m2) w wr := HU.out.step (Hu2.out.mono fun i hi => Or.inr (Or.inl (by rw [hi]; rfl)))
              exact ⟨rfl, evict_end HM.out Hr2.out Hc2.out hs2 Ht2.out Hu2.out hq hnc hcm hBg hbg rfl (by simp) _, ((hu3.setCell (Or.inl (Or.inl rfl)) _).drewN _).setCell (Or.inl (Or.inl rfl)) _⟩
end Go.Proofs.YtmlnmllnlekcgaaDoor
/-
  The contract of evictOldest at a table without memory of its own, and at any table.
-/
namespace Go.Proofs.YtmlnmllnlekcgaaDoor
open Go.ChangeShapes Go.WideShapes Go.ChangeAt Go.RowKit

/-- Fields of the table's struct are written, its entries and maps are as they were. -/
theorem TabMem.write {B : Nat} {w w' : World} {b n : Nat} {f f' : Nat → Value} {ents : List (HD.Bs × HD.Bs)} {cnt cnt' : Nat} {ev : Value} {m1 m2 : Nat} {l1 : List (HD.Bs × Nat)} {l2 : List ((HD.Bs × HD.Bs) × Nat)}
    (h : TabMem B w b n f ents cnt ev m1 m2 l1 l2) (hr : Row w' b n f') (ho : ∀ i, i < w.heap.size → b ≠ i → w'.heap[i]? = w.heap[i]?) (h0 : f' 0 = .bool false) (h1 : f' 1 = ev) (h2 : f' 2 = .int .u64 (cnt' : Nat)) (h3 : f' 3 = .map (some m1)) (h4 : f' 4 = .map (some m2)) :
    TabMem B w' b n f' ents cnt' ev m1 m2 l1 l2 :=
  ⟨hr, h.big, h0, h1, h2, h3, h4, ownsRow_of_heap h.own fun g hg => ho g (h.own.lt g hg).2 (fun e => h.ne (by rw [hg, e])), h.ne, h.mm, h.lo, h.map1.of_heap (ho m1 h.map1.lt h.b_m1), h.map2.of_heap (ho m2 h.map2.lt h.b_m2)⟩
theorem other_set {w : World} {b i j : Nat} {v : Value} (h : b ≠ i) : (w.setCell ⟨b, j, none⟩ v).heap[i]? = w.heap[i]? := Below.heap_setCell _ _ _ _ (fun e => h e.symm)

theorem copy_none (w : World) (ty : TypeId) : (Builtin.copy_ #[64, 64] ty #[.slice none 0 0, .slice none 0 0]).run Tryd.prog w = .ok (goInt 0) w := by
  cases hq : Tryd.prog.info? 54 with
  | none => have := infoHF; simp [hq] at this
  | some i => simp [Builtin.copy_, run_underlying Tryd.underlying64, Builtin.lenOf, Builtin.firstCells, sizeOf, typeInfo, hq]

set_option maxHeartbeats 1000000 in
set_option maxRecDepth 100000 in
theorem evictOldest_nil (B : Nat) (w : World) (b n : Nat) (f : Nat → Value) (cnt m1 m2 : Nat) (l1 : List (HD.Bs × Nat)) (l2 : List ((HD.Bs × HD.Bs) × Nat))
    (hT : TabMem B w b n f [] cnt (.slice none 0 0) m1 m2 l1 l2) (hc : cnt < 2 ^ 62) :
    Calls Tryd.prog 52 #[.pointer (some ⟨b, 0, none⟩), .int .i64 0] w fun e w' => e = .returned (.tuple #[]) ∧
      TabMem B w' b n (evF f (.slice none 0 0) cnt) [] cnt (.slice none 0 0) m1 m2 l1 l2 ∧ Upd (tabOwn b (.slice none 0 0) m1 m2) w w' := by
  have HT := Lib.hid hT
  have c1 := hT.row.cell' (i := 1) (by have := hT.big; omega) hT.c1
  have c2 := hT.row.cell' (i := 2) (by have := hT.big; omega) hT.c2
  have fz := fun i => hT.row.unfrozen i none
  have hbl := hT.row.lt
  clear hT
  go_enter Tryd.func52, Tryd.ntmps52
  go_wp2_with fail
  refine (len_any b _ _ _ _ c1).mono ?_
  rintro e w0 ⟨rfl, rfl⟩
  go_wp2_with fail
  go_loop [4] (fun i => i = .int .i64 0) (fun _ => 0)
  case atStart => rfl
  case round =>
    obtain rfl := hrel
    have hcp := copy_none
    have hsl : ∀ w, (Instr.sliceAt 64 (.slice none 0 0) none (some (.int .i64 0)) none).run Tryd.prog w = .ok (.slice none 0 0) w := fun _ => by kernel_rfl
    have hsl2 : ∀ w, (Instr.slice 64 (.slice none 0 0) none (some (.int .i64 0)) none).run Tryd.prog w = .ok (.slice none 0 0) w := fun _ => by kernel_rfl
    have hs0 : IntKind.i64.wrap 0 = 0 := rfl
    go_wp2_with fail
    refine stillTail 10 (by kernel_rfl) (by kernel_rfl) ?_
    simp only [List.take_succ_cons, List.take_zero, List.drop_succ_cons, List.drop_zero]
    repeat (refine wpStill_step (fun K hK => ?_); go_simp; (refine hK _ ?_; clear hK K))
    refine wpStill_nil ?_
    go_wp2_with fail
    refine (len_any b 0 0 none _ (by exact c1)).mono ?_
    rintro e w0 ⟨rfl, rfl⟩
    go_wp2_with fail
    go_loop [8] (fun i => i = .int .i64 0) (fun _ => 0)
    case atStart => rfl
    case round =>
      obtain rfl := hrel
      go_wp2_with fail
      refine (len_any b 0 0 none _ (by exact c1)).mono ?_
      rintro e w0 ⟨rfl, rfl⟩
      go_wp2_with fail
      refine stillTail 10 (by kernel_rfl) (by kernel_rfl) ?_
      simp only [List.take_succ_cons, List.take_zero, List.drop_succ_cons, List.drop_zero]
      repeat (refine wpStill_step (fun K hK => ?_); go_simp; (first | (refine hK _ ?_; clear hK K) | (refine ⟨_, (len_same b 0 0 none _ (by exact c1)), hK _ ?_⟩; clear hK K)))
      refine wpStill_nil ?_
      go_wp2_with fail
      go_quiet (fail)
      go_wp2_with fail
      go_end0
      have hrow : Row (((w.setCell ⟨b, 1, none⟩ (.slice none 0 0)).drewN (1 + (1 + nq))).setCell ⟨b, 2, none⟩ (.int .u64 (cnt : Nat))) b n (evF f (.slice none 0 0) cnt) := by
        have h1 : Row ((w.setCell ⟨b, 1, none⟩ (.slice none 0 0)).drewN (1 + (1 + nq))) b n _ := (HT.out.row.set 1 _).of_heap rfl
        refine (h1.set 2 _).congr fun i _ => ?_
        unfold evF
        by_cases h2 : i = 2
        · subst h2; simp
        · by_cases h1 : i = 1 <;> simp [h1, h2]
      exact ⟨rfl, HT.out.write hrow (fun i _ hi => (other_set hi).trans (other_set (w := w) hi)) (by simp [evF, HT.out.c0]) (by simp [evF]) (by simp [evF]) (by simp [evF, HT.out.c3]) (by simp [evF, HT.out.c4]),
        (((Upd.refl _ w).setCell (Or.inl (Or.inl rfl)) _).drewN _).setCell (Or.inl (Or.inl rfl)) _⟩

theorem evictOldest_any (B q : Nat) (w : World) (b n : Nat) (f : Nat → Value) (ents : List (HD.Bs × HD.Bs)) (cnt : Nat) (ev : Value) (m1 m2 : Nat) (l1 : List (HD.Bs × Nat)) (l2 : List ((HD.Bs × HD.Bs) × Nat))
    (hT : TabMem B w b n f ents cnt ev m1 m2 l1 l2) (hq : q ≤ ents.length) (hc : cnt + ents.length < 2 ^ 62) :
    Calls Tryd.prog 52 #[.pointer (some ⟨b, 0, none⟩), .int .i64 (q : Nat)] w fun e w' => e = .returned (.tuple #[]) ∧
      ∃ ev', ev'.ownBlock = ev.ownBlock ∧ TabMem B w' b n (evF f ev' (cnt + q)) (ents.drop q) (cnt + q) ev' m1 m2 (delS (cnt + 1) (ents.take q) l1) (delP (cnt + 1) (ents.take q) l2) ∧ Upd (tabOwn b ev m1 m2) w w' := by
  obtain ⟨hol, hor⟩ := hT.own
  rcases hor with ⟨rfl, h0⟩ | ⟨g, cap, cur, rfl, -⟩
  · obtain rfl : ents = [] := List.eq_nil_of_length_eq_zero h0
    obtain rfl : q = 0 := by simpa using hq
    refine (evictOldest_nil B w b n f cnt m1 m2 l1 l2 hT (by simpa using hc)).mono ?_
    rintro e w' ⟨rfl, h1, h2⟩
    exact ⟨rfl, _, rfl, h1, h2⟩
  · refine (evictOldest_some B g cap q w b n f ents cnt m1 m2 l1 l2 hT hq hc).mono ?_
    rintro e w' ⟨rfl, h1, h2⟩
    exact ⟨rfl, .slice (some ⟨g, 0, none⟩) (ents.length - q) cap, rfl, h1, h2⟩
end Go.Proofs.YtmlnmllnlekcgaaDoor
/-
  Contracts of evict, addEntry, add and setMaxSize.
-/
namespace Go.Proofs.YtmlnmllnlekcgaaDoor
open Go.ChangeShapes Go.WideShapes Go.ChangeAt Go.RowKit

/-- The table's bounds: how much its entries take, how much it may have. -/
structure Sized (f : Nat → Value) (ents : List (HD.Bs × HD.Bs)) (max : Nat) : Prop where
  size : f 5 = .int .u32 (HD.tsize ents : Nat)
  max : f 6 = .int .u32 (max : Nat)
def putF (f : Nat → Value) (i : Nat) (v : Value) : Nat → Value := fun j => if j = i then v else f j

theorem own_form {w : World} {B e size n : Nat} {v : Value} {xs : List Value} (h : w.ownsRow B e size v n xs) : ∃ a cap, v = .slice a n cap := by
  rcases h.2 with ⟨rfl, rfl⟩ | ⟨g, cap, cur, rfl, _⟩
  · exact ⟨none, 0, rfl⟩
  · exact ⟨_, cap, rfl⟩
theorem tsize_drop (l : List (HD.Bs × HD.Bs)) (k : Nat) (h : k < l.length) : HD.tsize (l.drop k) = HD.esize l[k] + HD.tsize (l.drop (k + 1)) := by
  rw [List.drop_eq_getElem_cons h, HD.tsize_cons]
theorem evict_step (m : Nat) (l : List (HD.Bs × HD.Bs)) (k : Nat) (h : k < l.length) (hm : m < HD.tsize (l.drop k)) : HD.evict m (l.drop k) = HD.evict m (l.drop (k + 1)) := by
  rw [List.drop_eq_getElem_cons h] at hm ⊢
  rw [HD.evict, if_pos hm]
theorem evict_stop (m : Nat) (l : List (HD.Bs × HD.Bs)) (hm : ¬ m < HD.tsize l) : HD.evict m l = l := by
  cases l with
  | nil => rfl
  | cons e l => rw [HD.evict, if_neg hm]

theorem cell_in {w : World} {b i j : Nat} {v : Value} (h : i ≠ j) : (w.setCell ⟨b, j, none⟩ v).cell? ⟨b, i, none⟩ = w.cell? ⟨b, i, none⟩ := World.cell?_setCell_other _ _ _ _ (fun e => h (congrArg Addr.off e).symm)

set_option maxHeartbeats 4000000 in
set_option maxRecDepth 100000 in
theorem evict_any (B : Nat) (w : World) (b n : Nat) (f : Nat → Value) (ents : List (HD.Bs × HD.Bs)) (cnt max : Nat) (ev : Value) (m1 m2 : Nat) (l1 : List (HD.Bs × Nat)) (l2 : List ((HD.Bs × HD.Bs) × Nat))
    (hT : TabMem B w b n f ents cnt ev m1 m2 l1 l2) (hS : Sized f ents max) (hc : cnt + ents.length < 2 ^ 62) (hmax : max < 2 ^ 32) (hts : HD.tsize ents < 2 ^ 32) :
    Calls Tryd.prog 41 #[.pointer (some ⟨b, 0, none⟩)] w fun e w' => e = .returned (.tuple #[]) ∧
      ∃ (q : Nat) (ev' : Value) (f' : Nat → Value), q ≤ ents.length ∧ HD.evict max ents = ents.drop q ∧ ev'.ownBlock = ev.ownBlock ∧ (∀ i, 6 ≤ i → f' i = f i) ∧ Sized f' (HD.evict max ents) max ∧
        TabMem B w' b n f' (HD.evict max ents) (cnt + q) ev' m1 m2 (delS (cnt + 1) (ents.take q) l1) (delP (cnt + 1) (ents.take q) l2) ∧ Upd (tabOwn b ev m1 m2) w w' := by
  have HT := Lib.hid hT
  have HS := Lib.hid hS
  have hbig := hT.big
  obtain ⟨a, cap, hev⟩ := own_form hT.own
  have hown := hT.own
  have Hown := Lib.hid hown
  clear hT hS hown
  go_enter Tryd.func41, Tryd.ntmps41
  go_wp2_with fail
  go_loopw [2] (fun i wr => ∃ k : Nat, k ≤ ents.length ∧ i = .int .i64 (k : Nat) ∧ Row wr b n (putF f 5 (.int .u32 (HD.tsize (ents.drop k) : Nat))) ∧ Upd (fun i => i = b) w wr ∧ HD.evict max ents = HD.evict max (ents.drop k)) (fun i _ => ents.length - (intOf i).toNat)
  case atStart => exact ⟨0, Nat.zero_le _, rfl, HT.out.row.congr fun i _ => by unfold putF; split <;> simp_all [HS.out.size], Upd.refl _ _, rfl⟩
  case round =>
    obtain ⟨k, hk, rfl, hr, hu, he⟩ := hrel
    have hTr : TabMem B wr b n (putF f 5 (.int .u32 (HD.tsize (ents.drop k) : Nat))) ents cnt ev m1 m2 l1 l2 :=
      HT.out.write hr (fun i hi hn => hu.block i hi (fun e => hn e.symm)) (by simp [putF, HT.out.c0]) (by simp [putF, HT.out.c1]) (by simp [putF, HT.out.c2]) (by simp [putF, HT.out.c3]) (by simp [putF, HT.out.c4])
    have c1 := hr.cell' (i := 1) (v := .slice a ents.length cap) (by omega) (by simp [putF, HT.out.c1, hev])
    have c5 := hr.cell' (i := 5) (v := .int .u32 (HD.tsize (ents.drop k) : Nat)) (by omega) (by simp [putF])
    have c6 := hr.cell' (i := 6) (v := .int .u32 (max : Nat)) (by omega) (by simp [putF, HS.out.max])
    have fz := fun i => hr.unfrozen i none
    have hbl := hr.lt
    have Hr := Lib.hid hr
    have Hu := Lib.hid hu
    have He := Lib.hid he
    have HTr := Lib.hid hTr
    have hle : HD.tsize (ents.drop k) ≤ HD.tsize ents := by
      have := HD.tsize_append (ents.take k) (ents.drop k)
      rw [List.take_append_drop] at this
      omega
    clear hr hu he hTr
    by_cases hgt : max < HD.tsize (ents.drop k)
    · have hke : k < ents.length := by
        rcases Nat.lt_or_ge k ents.length with h | h
        · exact h
        · rw [List.drop_eq_nil_of_le h] at hgt; simp [HD.tsize] at hgt
      have hst := evict_step max ents k hke hgt
      have htd := tsize_drop ents k hke
      obtain ⟨es, hes⟩ : ∃ es, es = ents[k] := ⟨_, rfl⟩
      rw [← hes] at htd
      obtain ⟨s, hs⟩ : ∃ s, s = HD.tsize (ents.drop k) := ⟨_, rfl⟩
      rw [← hs] at htd hgt hle c5
      obtain ⟨s2, hs2⟩ : ∃ s2, s2 = HD.tsize (ents.drop (k + 1)) := ⟨_, rfl⟩
      rw [← hs2] at htd
      have Hes := Lib.hid hes
      have Hs := Lib.hid hs
      have Hs2 := Lib.hid hs2
      have Hst := Lib.hid hst
      obtain ⟨z, hz⟩ : ∃ z, es.1.length + es.2.length + 32 = z := ⟨_, rfl⟩
      have hzs : z + s2 = s := by unfold HD.esize at htd; omega
      have hzl : z < 4294967296 := by omega
      have hsl : s < 4294967296 := by omega
      have hzle : (z : Int) ≤ (s : Int) := by omega
      have Hz := Lib.hid hz
      have Hzs := Lib.hid hzs
      obtain ⟨g, rfl⟩ : ∃ g, a = some ⟨g, 0, none⟩ := by
        rcases HTr.out.own.2 with ⟨e, h0⟩ | ⟨g, cap', cur, e, -⟩
        · omega
        · rw [hev] at e; injection e with e1; exact ⟨g, e1⟩
      obtain ⟨x1, x2, x3⟩ := entCells_at ents k hke
      have hgr := HTr.out.own.cells (g := g) (by rw [hev]; rfl)
      have e1 := hgr _ _ x1
      have e2 := hgr _ _ x2
      have e3 := hgr _ _ x3
      rw [Lib.addr_add, Nat.zero_add] at e1 e2 e3
      rw [← hes] at e1 e2
      have hgt1 : decide (max < s) = true := by simpa using hgt
      have hgtI : (max : Int) < (s : Int) := by omega
      have hkeN : decide (k < ents.length) = true := by simpa using hke
      clear hes hs hs2 hst htd hz hzs hgr x1 x2 x3
      go_wp2_with fail
      go_quiet ((go_at_call 50; exact Calls.quiet_of_same (len_same b _ _ _ _ (by exact c1))))
      go_wp2_with fail
      have hgl := World.block_lt_of_cell? wr _ e1
      have hbg : b ≠ g := fun e => HT.out.ne (by rw [hev, e]; rfl)
      refine wp_region_held_drew (S := (fun w' => w'.cell? ⟨b, 1, none⟩ = some (.slice (some ⟨g, 0, none⟩) ents.length cap) ∧ w'.cell? ⟨g, k * 3, none⟩ = some (.string ⟨es.1.toArray⟩) ∧ w'.cell? ⟨g, k * 3 + 1, none⟩ = some (.string ⟨es.2.toArray⟩) ∧ w'.cell? ⟨g, k * 3 + 2, none⟩ = some (.bool false))) (by kernel_rfl) ((by exact ⟨c1, e1, e2, e3⟩)) (fun hHeld => ?_)
      refine takeH 0 (v := ?_) rfl rfl (by kernel_rfl) (by kernel_rfl) (by kernel_rfl) (fun _ _ _ h => h) (Or.inl ⟨by rfl, ?_⟩) (by assumption) ?_
      rotate_left
      · (intro w hSw; (try dsimp only at hSw); go_simp <;> with_reducible rfl)
      simp only [List.setIfInBounds_toArray, List.set_cons_zero, List.set_cons_succ]
      refine takeH 1 (v := ?_) rfl rfl (by kernel_rfl) (by kernel_rfl) (by kernel_rfl) (fun _ _ _ h => h) (Or.inl ⟨by rfl, ?_⟩) (by assumption) ?_
      rotate_left
      · (intro w hSw; (try dsimp only at hSw); go_simp <;> with_reducible rfl)
      simp only [List.setIfInBounds_toArray, List.set_cons_zero, List.set_cons_succ]
      refine takeH 2 (v := ?_) rfl rfl (by kernel_rfl) (by kernel_rfl) (by kernel_rfl) (fun _ _ _ h => h) (Or.inl ⟨by rfl, ?_⟩) (by assumption) ?_
      rotate_left
      · (intro w hSw; (try dsimp only at hSw); go_simp <;> with_reducible rfl)
      simp only [List.setIfInBounds_toArray, List.set_cons_zero, List.set_cons_succ]
      refine takeH 4 (v := ?_) rfl rfl (by kernel_rfl) (by kernel_rfl) (by kernel_rfl) (fun _ _ _ h => h) (Or.inl ⟨by rfl, ?_⟩) (by assumption) ?_
      rotate_left
      · (intro w hSw; (try dsimp only at hSw); go_simp <;> with_reducible rfl)
      simp only [List.setIfInBounds_toArray, List.set_cons_zero, List.set_cons_succ]
      refine takeH 5 (v := ?_) rfl rfl (by kernel_rfl) (by kernel_rfl) (by kernel_rfl) (fun _ _ _ h => h) (Or.inl ⟨by rfl, ?_⟩) (by assumption) ?_
      rotate_left
      · (intro w hSw; (try dsimp only at hSw); go_simp <;> with_reducible rfl)
      simp only [List.setIfInBounds_toArray, List.set_cons_zero, List.set_cons_succ]
      refine takeH 6 (v := ?_) rfl rfl (by kernel_rfl) (by kernel_rfl) (by kernel_rfl) (fun _ _ _ h => h) (Or.inl ⟨by rfl, ?_⟩) (by assumption) ?_
      rotate_left
      · (intro w hSw; (try dsimp only at hSw); go_simp <;> with_reducible rfl)
      simp only [List.setIfInBounds_toArray, List.set_cons_zero, List.set_cons_succ]
      refine takeH 7 (v := ?_) rfl rfl (by kernel_rfl) (by kernel_rfl) (by kernel_rfl) (fun _ _ _ h => h) (Or.inl ⟨by rfl, ?_⟩) (by assumption) ?_
      rotate_left
      · (intro w hSw; (try dsimp only at hSw); go_simp <;> with_reducible rfl)
      simp only [List.setIfInBounds_toArray, List.set_cons_zero, List.set_cons_succ]
      refine takeH 8 (v := ?_) rfl rfl (by kernel_rfl) (by kernel_rfl) (by kernel_rfl) (fun _ _ _ h => h) (Or.inl ⟨by rfl, ?_⟩) (by assumption) ?_
      rotate_left
      · (intro w hSw; (try dsimp only at hSw); go_simp <;> with_reducible rfl)
      simp only [List.setIfInBounds_toArray, List.set_cons_zero, List.set_cons_succ]
      refine takeH 9 (v := ?_) rfl rfl (by kernel_rfl) (by kernel_rfl) (by kernel_rfl) (fun _ _ _ h => h) (Or.inl ⟨by rfl, ?_⟩) (by assumption) ?_
      rotate_left
      · (intro w hSw; (try dsimp only at hSw); go_simp <;> with_reducible rfl)
      simp only [List.setIfInBounds_toArray, List.set_cons_zero, List.set_cons_succ]
      refine takeH 10 (v := ?_) rfl rfl (by kernel_rfl) (by kernel_rfl) (by kernel_rfl) (fun _ _ _ h => h) (Or.inl ⟨by rfl, ?_⟩) (by assumption) ?_
      rotate_left
      · (intro w hSw; (try dsimp only at hSw); go_simp <;> with_reducible rfl)
      simp only [List.setIfInBounds_toArray, List.set_cons_zero, List.set_cons_succ]
      refine takeH 11 (v := ?_) rfl rfl (by kernel_rfl) (by kernel_rfl) (by kernel_rfl) (fun _ _ _ h => h) (Or.inl ⟨by rfl, ?_⟩) (by assumption) ?_
      rotate_left
      · (intro w hSw; (try dsimp only at hSw); go_simp <;> with_reducible rfl)
      simp only [List.setIfInBounds_toArray, List.set_cons_zero, List.set_cons_succ]
      refine wpAnyH_ready (rs := [3, 12]) (by kernel_rfl) (by simp) ?_
      refine AllReadyH.cons rfl (fun K hK => ?_) (AllReadyH.cons rfl (fun K hK => ?_) AllReadyH.nil)
      · go_simp
        refine hK.out _ _ (by exact ⟨c1, e1, e2, e3⟩) (fun hHeld => ?_)
        clear hK K
        refine wpAnyH_ready (rs := [12]) (by kernel_rfl) (by simp) ?_
        refine AllReadyH.cons rfl (fun K hK => ?_) AllReadyH.nil
        go_simp
        refine (size_any es.1 es.2 false _ (by rw [Hz.out]; exact hzl)).mono ?_
        rintro e w4 ⟨rfl, hb4⟩
        rw [Hz.out]
        have hS4 : w4.cell? ⟨b, 1, none⟩ = some (.slice (some ⟨g, 0, none⟩) ents.length cap) ∧ w4.cell? ⟨g, k * 3, none⟩ = some (.string ⟨es.1.toArray⟩) ∧ w4.cell? ⟨g, k * 3 + 1, none⟩ = some (.string ⟨es.2.toArray⟩) ∧ w4.cell? ⟨g, k * 3 + 2, none⟩ = some (.bool false) := ⟨(hb4.cell (p := ⟨b, 1, none⟩) hbl).trans c1, (hb4.cell (p := ⟨g, k * 3, none⟩) hgl).trans e1, (hb4.cell (p := ⟨g, k * 3 + 1, none⟩) hgl).trans e2, (hb4.cell (p := ⟨g, k * 3 + 2, none⟩) hgl).trans e3⟩
        refine hK.out _ _ hS4 (fun hHeld => ?_)
        clear hK K
        have hb5 : w4.heap[b]? = wr.heap[b]? := hb4.block b hbl
        have hr4 := Hr.out.of_heap hb5
        have d5 := hr4.cell' (i := 5) (v := .int .u32 (s : Nat)) (by omega) (by simp [putF, Hs.out])
        have fz4 := fun i => hr4.unfrozen i none
        have hu4 : Upd (fun i => i = b) w w4 := Hu.out.step ⟨hb4.os, hb4.tape, hb4.output, hb4.size, fun i hi _ => hb4.block i hi⟩
        have Hr4 := Lib.hid hr4
        have Hu4 := Lib.hid hu4
        clear hb4 hb5 hr4 hu4 c5 c6 fz
        refine takeH 13 (v := ?_) rfl rfl (by kernel_rfl) (by kernel_rfl) (by kernel_rfl) (fun _ _ _ h => h) (Or.inl ⟨by rfl, ?_⟩) (by assumption) ?_
        rotate_left
        · (intro w hSw; (try dsimp only at hSw); go_simp <;> with_reducible rfl)
        simp only [List.setIfInBounds_toArray, List.set_cons_zero, List.set_cons_succ]
        refine takeH 14 (v := ?_) rfl rfl (by kernel_rfl) (by kernel_rfl) (by kernel_rfl) (fun _ _ _ h => h) (Or.inl ⟨by rfl, ?_⟩) (by assumption) ?_
        rotate_left
        · (intro w hSw; (try dsimp only at hSw); go_simp <;> with_reducible rfl)
        simp only [List.setIfInBounds_toArray, List.set_cons_zero, List.set_cons_succ]
        refine takeH 15 (v := ?_) rfl rfl (by kernel_rfl) (by kernel_rfl) (by kernel_rfl) (fun _ _ _ h => h) (Or.inl ⟨by rfl, ?_⟩) (by assumption) ?_
        rotate_left
        · (intro w hSw; (try dsimp only at hSw); go_simp <;> with_reducible rfl)
        simp only [List.setIfInBounds_toArray, List.set_cons_zero, List.set_cons_succ]
        refine wpAnyH_ready (rs := [16]) (by kernel_rfl) (by simp) ?_
        refine AllReadyH.cons rfl (fun K hK => ?_) AllReadyH.nil
        go_simp
        obtain ⟨y1, y2, y3, y4⟩ := hS4
        refine hK.out _ _ (by exact ⟨(cell_in (by decide)).trans y1, (cell_other hbg).trans y2, (cell_other hbg).trans y3, (cell_other hbg).trans y4⟩) (fun hHeld => ?_)
        clear hK K
        refine wpAnyH_done (by kernel_rfl) ?_ _
        clear hHeld y1 y2 y3 y4
        go_wp2_with fail
        refine ⟨⟨k + 1, hke, by go_num, (Hr4.out.set 5 _).congr fun i _ => ?_, Hu4.out.setCell (Or.inl rfl) _, He.out.trans Hst.out⟩, by simp [intOf]; omega⟩
        unfold putF
        by_cases h5 : i = 5
        · subst h5
          have := Hzs.out
          simp only [if_true, ← Hs2.out]
          rw [show (s : Int) - (z : Int) = (s2 : Int) by omega]
        · simp [h5]
      · go_simp
        refine (size_any es.1 es.2 false _ (by rw [Hz.out]; exact hzl)).mono ?_
        rintro e w4 ⟨rfl, hb4⟩
        rw [Hz.out]
        have hS4 : w4.cell? ⟨b, 1, none⟩ = some (.slice (some ⟨g, 0, none⟩) ents.length cap) ∧ w4.cell? ⟨g, k * 3, none⟩ = some (.string ⟨es.1.toArray⟩) ∧ w4.cell? ⟨g, k * 3 + 1, none⟩ = some (.string ⟨es.2.toArray⟩) ∧ w4.cell? ⟨g, k * 3 + 2, none⟩ = some (.bool false) := ⟨(hb4.cell (p := ⟨b, 1, none⟩) hbl).trans c1, (hb4.cell (p := ⟨g, k * 3, none⟩) hgl).trans e1, (hb4.cell (p := ⟨g, k * 3 + 1, none⟩) hgl).trans e2, (hb4.cell (p := ⟨g, k * 3 + 2, none⟩) hgl).trans e3⟩
        refine hK.out _ _ hS4 (fun hHeld => ?_)
        clear hK K
        have hb5 : w4.heap[b]? = wr.heap[b]? := hb4.block b hbl
        have hr4 := Hr.out.of_heap hb5
        have d5 := hr4.cell' (i := 5) (v := .int .u32 (s : Nat)) (by omega) (by simp [putF, Hs.out])
        have fz4 := fun i => hr4.unfrozen i none
        have hu4 : Upd (fun i => i = b) w w4 := Hu.out.step ⟨hb4.os, hb4.tape, hb4.output, hb4.size, fun i hi _ => hb4.block i hi⟩
        have Hr4 := Lib.hid hr4
        have Hu4 := Lib.hid hu4
        clear hb4 hb5 hr4 hu4 c5 c6 fz
        refine wpAnyH_ready (rs := [3]) (by kernel_rfl) (by simp) ?_
        refine AllReadyH.cons rfl (fun K hK => ?_) AllReadyH.nil
        go_simp
        refine hK.out _ _ hS4 (fun hHeld => ?_)
        clear hK K
        refine takeH 13 (v := ?_) rfl rfl (by kernel_rfl) (by kernel_rfl) (by kernel_rfl) (fun _ _ _ h => h) (Or.inl ⟨by rfl, ?_⟩) (by assumption) ?_
        rotate_left
        · (intro w hSw; (try dsimp only at hSw); go_simp <;> with_reducible rfl)
        simp only [List.setIfInBounds_toArray, List.set_cons_zero, List.set_cons_succ]
        refine takeH 14 (v := ?_) rfl rfl (by kernel_rfl) (by kernel_rfl) (by kernel_rfl) (fun _ _ _ h => h) (Or.inl ⟨by rfl, ?_⟩) (by assumption) ?_
        rotate_left
        · (intro w hSw; (try dsimp only at hSw); go_simp <;> with_reducible rfl)
        simp only [List.setIfInBounds_toArray, List.set_cons_zero, List.set_cons_succ]
        refine takeH 15 (v := ?_) rfl rfl (by kernel_rfl) (by kernel_rfl) (by kernel_rfl) (fun _ _ _ h => h) (Or.inl ⟨by rfl, ?_⟩) (by assumption) ?_
        rotate_left
        · (intro w hSw; (try dsimp only at hSw); go_simp <;> with_reducible rfl)
        simp only [List.setIfInBounds_toArray, List.set_cons_zero, List.set_cons_succ]
        refine wpAnyH_ready (rs := [16]) (by kernel_rfl) (by simp) ?_
        refine AllReadyH.cons rfl (fun K hK => ?_) AllReadyH.nil
        go_simp
        obtain ⟨y1, y2, y3, y4⟩ := hS4
        refine hK.out _ _ (by exact ⟨(cell_in (by decide)).trans y1, (cell_other hbg).trans y2, (cell_other hbg).trans y3, (cell_other hbg).trans y4⟩) (fun hHeld => ?_)
        clear hK K
        refine wpAnyH_done (by kernel_rfl) ?_ _
        clear hHeld y1 y2 y3 y4
        go_wp2_with fail
        refine ⟨⟨k + 1, hke, by go_num, (Hr4.out.set 5 _).congr fun i _ => ?_, Hu4.out.setCell (Or.inl rfl) _, He.out.trans Hst.out⟩, by simp [intOf]; omega⟩
        unfold putF
        by_cases h5 : i = 5
        · subst h5
          have := Hzs.out
          simp only [if_true, ← Hs2.out]
          rw [show (s : Int) - (z : Int) = (s2 : Int) by omega]
        · simp [h5]
    · obtain ⟨s, hs⟩ : ∃ s, s = HD.tsize (ents.drop k) := ⟨_, rfl⟩
      have hstop := evict_stop max (ents.drop k) hgt
      rw [← hs] at hgt hle c5
      have Hs := Lib.hid hs
      have Hstop := Lib.hid (He.out.trans hstop)
      have hgt1 : decide (max < s) = false := by simpa using hgt
      have hgtI : ¬ (max : Int) < (s : Int) := by omega
      clear hs hstop
      go_wp2_with fail
      go_quiet ((go_at_call 50; exact Calls.quiet_of_same (len_same b _ _ _ _ (by exact c1))))
      go_wp2_with fail
      refine (evictOldest_any B k _ b n _ ents cnt ev m1 m2 l1 l2 (HTr.out.drewN nq) hk hc).mono ?_
      rintro e w5 ⟨rfl, ev', hev', hT5, hU5⟩
      have Hev := Lib.hid hev'
      have HT5 := Lib.hid hT5
      have HU5 := Lib.hid hU5
      clear hev' hT5 hU5
      go_wp2_with fail
      go_end0
      rw [Hstop.out]
      refine ⟨rfl, k, ev', _, hk, rfl, Hev.out, fun i hi => ?_, ⟨?_, ?_⟩, HT5.out, (Hu.out.mono fun i hi => Or.inl hi).step (((Upd.refl _ wr).drewN nq).step HU5.out)⟩
      · simp only [evF, putF]; rw [if_neg (by omega), if_neg (by omega), if_neg (by omega)]
      · simp [evF, putF]
      · simp [evF, putF, HS.out.max]

/-- The least table size is told. -/
theorem setMax_any (B : Nat) (w : World) (b n : Nat) (f : Nat → Value) (ents : List (HD.Bs × HD.Bs)) (cnt max v : Nat) (ev : Value) (m1 m2 : Nat) (l1 : List (HD.Bs × Nat)) (l2 : List ((HD.Bs × HD.Bs) × Nat))
    (hT : TabMem B w b n f ents cnt ev m1 m2 l1 l2) (hS : Sized f ents max) (hc : cnt + ents.length < 2 ^ 62) (hv : v < 2 ^ 32) (hts : HD.tsize ents < 2 ^ 32) :
    Calls Tryd.prog 27 #[.pointer (some ⟨b, 0, none⟩), .int .u32 (v : Nat)] w fun e w' => e = .returned (.tuple #[]) ∧
      ∃ (q : Nat) (ev' : Value) (f' : Nat → Value), q ≤ ents.length ∧ HD.evict v ents = ents.drop q ∧ ev'.ownBlock = ev.ownBlock ∧ (∀ i, 7 ≤ i → f' i = f i) ∧ Sized f' (HD.evict v ents) v ∧
        TabMem B w' b n f' (HD.evict v ents) (cnt + q) ev' m1 m2 (delS (cnt + 1) (ents.take q) l1) (delP (cnt + 1) (ents.take q) l2) ∧ Upd (tabOwn b ev m1 m2) w w' := by
  have hbig := hT.big
  have c6 := hT.row.cell' (i := 6) (v := .int .u32 (max : Nat)) (by omega) hS.max
  have fz := fun i => hT.row.unfrozen i none
  have hrow : Row (w.setCell ⟨b, 6, none⟩ (.int .u32 (v : Nat))) b n (putF f 6 (.int .u32 (v : Nat))) := hT.row.set 6 _
  have hT2 := hT.write (cnt' := cnt) hrow (fun i _ hi => other_set hi) (by simp [putF, hT.c0]) (by simp [putF, hT.c1]) (by simp [putF, hT.c2]) (by simp [putF, hT.c3]) (by simp [putF, hT.c4])
  have hS2 : Sized (putF f 6 (.int .u32 (v : Nat))) ents v := ⟨by simp [putF, hS.size], by simp [putF]⟩
  have HT2 := Lib.hid hT2
  have HS2 := Lib.hid hS2
  clear hT hS hrow hT2 hS2
  go_enter Tryd.func27, Tryd.ntmps27
  go_wp2_with fail
  refine (evict_any B _ b n _ ents cnt v ev m1 m2 l1 l2 HT2.out HS2.out hc hv hts).mono ?_
  rintro e w5 ⟨rfl, q, ev', f', hq, he, hev, hf, hs, ht, hu⟩
  have H1 := Lib.hid he
  have H2 := Lib.hid hev
  have H3 := Lib.hid hf
  have H4 := Lib.hid hs
  have H5 := Lib.hid ht
  have H6 := Lib.hid hu
  clear he hev hf hs ht hu
  go_wp2_with fail
  go_end0
  exact ⟨rfl, q, ev', f', hq, H1.out, H2.out, fun i hi => (H3.out i (by omega)).trans (by simp [putF]; omega), H4.out, H5.out, ((Upd.refl _ w).setCell (Or.inl (Or.inl rfl)) _).step H6.out⟩
end Go.Proofs.YtmlnmllnlekcgaaDoor
