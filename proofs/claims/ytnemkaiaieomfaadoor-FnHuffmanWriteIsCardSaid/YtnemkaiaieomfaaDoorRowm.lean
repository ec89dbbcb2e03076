/-
  PLAIN: a block of memory whose cells are known, and what stores and new blocks leave of it. And the tree of the Huffman code as it lies in memory.
-/
import Derived.Test.YtnemkaiaieomfaaDoorNode
import Derived.Lib.OthersKept
namespace Go.Proofs.YtnemkaiaieomfaaDoor
open Go.ChangeShapes Go.WideShapes Go.ChangeAt Go.RowKit

/-- Block b holds n cells, no one frozen, cell i is f i. -/
def Row (w : World) (b n : Nat) (f : Nat → Value) : Prop := ∃ cs t, w.heap[b]? = some (.cells cs t (0, 0)) ∧ cs.size = n ∧ (∀ i, i < n → cs[i]? = some (f i)) ∧ t ≠ 5

namespace Row
variable {w w' : World} {b n : Nat} {f g : Nat → Value}
theorem lt (h : Row w b n f) : b < w.heap.size := by
  obtain ⟨cs, t, h, -⟩ := h
  exact (Array.getElem?_eq_some_iff.1 h).1
theorem cell (h : Row w b n f) {i : Nat} (hi : i < n) : w.cell? ⟨b, i, none⟩ = some (f i) := by
  obtain ⟨cs, t, h, -, hc, -⟩ := h
  simp [World.cell?, h, hc i hi]
theorem cell' (h : Row w b n f) {i : Nat} (hi : i < n) {v : Value} (hv : f i = v) : w.cell? ⟨b, i, none⟩ = some v := hv ▸ h.cell hi
theorem unfrozen (h : Row w b n f) (i : Nat) (s : Option Nat) : w.frozen? ⟨b, i, s⟩ = false := by
  obtain ⟨cs, t, h, -⟩ := h
  simp [World.frozen?, h]
theorem congr (h : Row w b n f) (hfg : ∀ i, i < n → f i = g i) : Row w b n g := by
  obtain ⟨cs, t, h, hn, hc, ht⟩ := h
  exact ⟨cs, t, h, hn, fun i hi => by rw [hc i hi, hfg i hi], ht⟩
theorem of_heap (h : Row w b n f) (e : w'.heap[b]? = w.heap[b]?) : Row w' b n f := by
  obtain ⟨cs, t, h, r⟩ := h
  exact ⟨cs, t, e.trans h, r⟩
theorem alloc (h : Row w b n f) (o : Obj) : Row (w.alloc o) b n f := h.of_heap (by show (w.heap.push o)[b]? = _; rw [Array.getElem?_push, if_neg (Nat.ne_of_lt h.lt)])
theorem setOther (h : Row w b n f) {a : Addr} (ha : b ≠ a.block) (u : Value) : Row (w.setCell a u) b n f := h.of_heap (Below.heap_setCell _ _ _ _ ha)
theorem below {B : Nat} (h : Row w b n f) (hb : Below B w w') (hB : b < B) : Row w' b n f := h.of_heap (hb.block b hB)
theorem set (h : Row w b n f) (j : Nat) (u : Value) : Row (w.setCell ⟨b, j, none⟩ u) b n (fun i => if i = j then u else f i) := by
  obtain ⟨cs, t, h, hn, hc, ht⟩ := h
  refine ⟨cs.setIfInBounds j u, t, ?_, by simp [hn], fun i hi => ?_, ht⟩
  · simp [World.setCell, Array.getElem?_modify, h]
  · rw [Array.getElem?_setIfInBounds]
    by_cases e : j = i
    · subst e; simp [hn, hi]
    · rw [if_neg e, hc i hi]; simp only []; rw [if_neg (fun (h : i = j) => e h.symm)]
theorem new (w : World) {cs : Array Value} (t : TypeId) (ht : t ≠ 5) (hn : cs.size = n) (hc : ∀ i, i < n → cs[i]? = some (f i)) : Row (w.alloc (.cells cs t)) w.heap.size n f := ⟨cs, t, by show (w.heap.push _)[w.heap.size]? = _; simp, hn, hc, ht⟩
theorem kept {c : Nat} (h : Row w b n f) (hk : Lib.OthersKept 5 (some c) w w') (hb : b ≠ c) : Row w' b n f := by
  obtain ⟨cs, t, h, hn, hc, ht⟩ := h
  exact ⟨cs, t, hk b _ h (fun e => hb (Option.some.inj e)) (fun c fz e => ht (by injection e)), hn, hc, ht⟩
end Row

theorem cell_other {w : World} {b j b' i : Nat} {u : Value} (h : b ≠ b') : (w.setCell ⟨b, j, none⟩ u).cell? ⟨b', i, none⟩ = w.cell? ⟨b', i, none⟩ := World.cell?_setCell_other _ _ _ _ (fun e => h (congrArg Addr.block e))

def rowB (N k : Nat) : Nat := if k = 0 then N else N + 2 * k + 1
def nodeB (N k : Nat) : Nat := if k = 0 then N + 1 else N + 2 * k + 2
def entV (N : Nat) : HP.Ent → Value
  | .none => .pointer none
  | .inner k => .pointer (some ⟨nodeB N k, 0, none⟩)
  | .leaf s _ => .pointer (some ⟨N + 2, s * 3, none⟩)
def cl8 (s : Nat) : Nat := (HP.hlen s - 1) % 8 + 1
def nodeV (N k i : Nat) : Value := if i = 0 then .pointer (some ⟨rowB N k, 0, none⟩) else .int .u8 0
def leafV (s i : Nat) : Value := if i % 3 = 0 then .pointer none else if i / 3 < s then (if i % 3 = 1 then .int .u8 (cl8 (i / 3) : Nat) else .int .u8 (i / 3 : Nat)) else .int .u8 0

/-- The tree as it lies in memory from block N on; what the leaves hold is f. -/
structure TreeMem (N : Nat) (f : Nat → Value) (t : HP.TB) (w : World) : Prop where
  size : w.heap.size = N + 2 * t.n + 1
  pos : 1 ≤ t.n
  row : ∀ k, k < t.n → Row w (rowB N k) 256 (fun i => entV N (HP.lookL t.log k i))
  node : ∀ k, k < t.n → Row w (nodeB N k) 3 (nodeV N k)
  leaves : Row w (N + 2) 768 f

theorem rowB_ne {N k k' : Nat} (h : k ≠ k') : rowB N k ≠ rowB N k' := by unfold rowB; split <;> split <;> omega
theorem rowB_node {N k k' : Nat} : rowB N k ≠ nodeB N k' := by unfold rowB nodeB; split <;> split <;> omega
theorem rowB_leaves {N k : Nat} : rowB N k ≠ N + 2 := by unfold rowB; split <;> omega
theorem nodeB_leaves {N k : Nat} : nodeB N k ≠ N + 2 := by unfold nodeB; split <;> omega
theorem le_rowB {N k : Nat} : N ≤ rowB N k := by unfold rowB; split <;> omega
theorem le_nodeB {N k : Nat} : N ≤ nodeB N k := by unfold nodeB; split <;> omega

namespace TreeMem
variable {N : Nat} {f : Nat → Value} {t : HP.TB} {w : World} {n k s c : Nat} {e : HP.Ent} {log : HP.Log}

theorem drew (h : TreeMem N f t w) : TreeMem N f t w.drew := ⟨h.size, h.pos, h.row, h.node, h.leaves⟩

/-- A leaf's cell is written. -/
theorem setLeaf (h : TreeMem N f t w) (j : Nat) (u : Value) : TreeMem N (fun i => if i = j then u else f i) t (w.setCell ⟨N + 2, j, none⟩ u) :=
  ⟨by rw [World.size_setCell]; exact h.size, h.pos, fun k hk => (h.row k hk).setOther rowB_leaves u, fun k hk => (h.node k hk).setOther nodeB_leaves u, h.leaves.set j u⟩

theorem congr {g : Nat → Value} (h : TreeMem N f t w) (hg : ∀ i, i < 768 → f i = g i) : TreeMem N g t w := ⟨h.size, h.pos, h.row, h.node, h.leaves.congr hg⟩

/-- A node's place is written; the log has it ahead. -/
theorem setRow (h : TreeMem N f t w) {k j : Nat} (e : HP.Ent) (_hk : k < t.n) : TreeMem N f ⟨t.n, (k, j, 1, e) :: t.log⟩ (w.setCell ⟨rowB N k, j, none⟩ (entV N e)) := by
  refine ⟨by rw [World.size_setCell]; exact h.size, h.pos, fun k' hk' => ?_, fun k' hk' => (h.node k' hk').setOther (fun e => rowB_node e.symm) _, h.leaves.setOther (fun e => rowB_leaves e.symm) _⟩
  by_cases hkk : k' = k
  · subst hkk
    refine ((h.row k' hk').set j _).congr fun i hi => ?_
    simp only [HP.lookL]
    by_cases hij : i = j
    · subst hij; simp
    · rw [if_neg hij, if_neg (by omega)]
  · refine ((h.row k' hk').setOther (rowB_ne hkk) _).congr fun i hi => ?_
    simp only [HP.lookL]
    rw [if_neg (by omega)]

/-- One place more of a run of leaves is written. -/
theorem setRun (h : TreeMem N f ⟨n, (k, s, c, e) :: log⟩ w) (_hk : k < n) : TreeMem N f ⟨n, (k, s, c + 1, e) :: log⟩ (w.setCell ⟨rowB N k, s + c, none⟩ (entV N e)) := by
  refine ⟨by rw [World.size_setCell]; exact h.size, h.pos, fun k' hk' => ?_, fun k' hk' => (h.node k' hk').setOther (fun e => rowB_node e.symm) _, h.leaves.setOther (fun e => rowB_leaves e.symm) _⟩
  by_cases hkk : k' = k
  · subst hkk
    refine ((h.row k' hk').set (s + c) _).congr fun i hi => ?_
    simp only [HP.lookL, true_and]
    by_cases hij : i = s + c
    · have h1 : s ≤ i ∧ i < s + (c + 1) := by omega
      simp only [if_pos hij, if_pos h1]
    · simp only [if_neg hij]
      by_cases hin : s ≤ i ∧ i < s + c
      · have h1 : s ≤ i ∧ i < s + (c + 1) := by omega
        simp only [if_pos hin, if_pos h1]
      · have h1 : ¬ (s ≤ i ∧ i < s + (c + 1)) := by omega
        simp only [if_neg hin, if_neg h1]
  · refine ((h.row k' hk').setOther (rowB_ne hkk) _).congr fun i hi => ?_
    simp only [HP.lookL]
    rw [if_neg (by omega), if_neg (by omega)]

theorem zeroRun (h : TreeMem N f ⟨n, log⟩ w) (k s : Nat) (e : HP.Ent) : TreeMem N f ⟨n, (k, s, 0, e) :: log⟩ w := by
  refine ⟨h.size, h.pos, fun k' hk' => (h.row k' hk').congr fun i hi => ?_, h.node, h.leaves⟩
  simp only [HP.lookL]
  rw [if_neg (by omega)]

/-- A new node and the place that leads to it. -/
theorem grow (h : TreeMem N f t w) {k j : Nat} (hk : k < t.n) (fresh : ∀ i, HP.lookL t.log t.n i = .none) : TreeMem N f ⟨t.n + 1, (k, j, 1, .inner t.n) :: t.log⟩ ((withNode w).setCell ⟨rowB N k, j, none⟩ (entV N (.inner t.n))) := by
  have hp := h.pos
  have hs := h.size
  have hr : rowB N t.n = w.heap.size := by rw [hs]; unfold rowB; split <;> omega
  have hn : nodeB N t.n = w.heap.size + 1 := by rw [hs]; unfold nodeB; split <;> omega
  have h1 : TreeMem N f ⟨t.n + 1, t.log⟩ (withNode w) := by
    refine ⟨by simp [withNode, hs]; omega, by show 1 ≤ t.n + 1; omega, fun k' hk' => ?_, fun k' hk' => ?_, (h.leaves.alloc _).alloc _⟩
    · by_cases e : k' < t.n
      · exact ((h.row k' e).alloc _).alloc _
      · obtain rfl : k' = t.n := by simp at hk'; omega
        rw [hr]
        exact (Row.new w _ (by decide) kids_size (fun i hi => by rw [kids_at hi]; simp [fresh, entV])).alloc _
    · by_cases e : k' < t.n
      · exact ((h.node k' e).alloc _).alloc _
      · obtain rfl : k' = t.n := by simp at hk'; omega
        rw [hn]
        have := Row.new (n := 3) (f := nodeV N t.n) (w.alloc (.cells kids 83)) (cs := #[.pointer (some ⟨w.heap.size, 0, none⟩), .int .u8 0, .int .u8 0]) 75 (by decide) rfl
          (fun i hi => by rcases i with _ | _ | _ | i <;> simp [nodeV, hr]; omega)
        rw [World.size_alloc] at this
        exact this
  have h2 := h1.setRow (k := k) (j := j) (.inner t.n) (by show k < t.n + 1; omega)
  exact h2
end TreeMem

/-- The tree at its beginning. -/
theorem treeMem_first (w : World) {ls : Array Value} {tl : TypeId} (htl : tl ≠ 5) (hl : ls.size = 768) (hc : ∀ i, i < 768 → ls[i]? = some (leafV 0 i)) :
    TreeMem w.heap.size (leafV 0) ⟨1, []⟩ ((withNode w).alloc (.cells ls tl)) := by
  have e2 : (withNode w).heap.size = w.heap.size + 2 := by simp [withNode]
  refine ⟨by rw [World.size_alloc, e2]; rfl, Nat.le_refl _, fun k hk => ?_, fun k hk => ?_, ?_⟩
  · obtain rfl : k = 0 := by simp at hk; omega
    exact ((Row.new w _ (by decide) kids_size (fun i hi => by rw [kids_at hi]; simp [HP.lookL, entV])).alloc _).alloc _
  · obtain rfl : k = 0 := by simp at hk; omega
    have := Row.new (n := 3) (f := nodeV w.heap.size 0) (w.alloc (.cells kids 83)) (cs := #[.pointer (some ⟨w.heap.size, 0, none⟩), .int .u8 0, .int .u8 0]) 75 (by decide) rfl
      (fun i hi => by rcases i with _ | _ | _ | i <;> simp [nodeV, rowB]; omega)
    rw [World.size_alloc] at this
    exact this.alloc _
  · have := Row.new (n := 768) (f := leafV 0) (withNode w) (cs := ls) tl htl hl hc
    rw [e2] at this
    exact this

/-- The tree once it is built. -/
structure TreeAt (N : Nat) (w : World) : Prop where
  row : ∀ k, k < 15 → Row w (rowB N k) 256 (fun i => entV N (HP.tab k i))
  node : ∀ k, k < 15 → Row w (nodeB N k) 3 (nodeV N k)
  leaves : Row w (N + 2) 768 (leafV 256)
theorem TreeMem.at {N : Nat} {w : World} (h : TreeMem N (leafV 256) ⟨15, HP.finalL⟩ w) : TreeAt N w := ⟨h.row, h.node, h.leaves⟩
theorem TreeAt.kept {N c : Nat} {w w' : World} (h : TreeAt N w) (hk : Lib.OthersKept 5 (some c) w w') (hc : c < N) : TreeAt N w' :=
  ⟨fun k hk' => (h.row k hk').kept hk (by have := @le_rowB N k; omega), fun k hk' => (h.node k hk').kept hk (by have := @le_nodeB N k; omega), h.leaves.kept hk (by omega)⟩
theorem TreeAt.drew {N : Nat} {w : World} (h : TreeAt N w) : TreeAt N w.drew := ⟨h.row, h.node, h.leaves⟩
end Go.Proofs.YtnemkaiaieomfaaDoor
