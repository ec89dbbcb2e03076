/-
  Texts of this seat, one behind the other: CallEm, Stat, Stat2, Stat3, Stat4, At, PIdx. What each one shows stands at its head. No condition.
-/
import Derived.Test.YtmlnmllnlekcgaaDoorMb7
import Derived.Deep.RegionHeld3
import Derived.Laws.Tables
import Derived.Great.BuildSlice
import Derived.Carry
import Derived.Orders
import Derived.Deep.Cut
/-
  callEmit: a field is told.
-/
namespace Go.Proofs.YtmlnmllnlekcgaaDoor
open Go.ChangeShapes Go.WideShapes Go.ChangeAt Go.RowKit

def fldV (f : HD.Fld) : Value := .agg #[.string ⟨f.name.toArray⟩, .string ⟨f.value.toArray⟩, .bool f.sens]
/-- What is asked of the function that fields are told to. -/
structure EmOk (B : Nat) (M : Emitter) : Prop where
  call : ∃ (F : FuncId) (cv : Value), M.val = .func (.func F) #[] #[cv] ∧ (∀ (args : Array Value) (w : World), (callFunc F args).run Tryd.prog w = .ok (.enter F args) w) ∧ ∀ (w : World) (l : List HD.Fld) (E : Nat → Prop) (f : HD.Fld), B ≤ w.heap.size → M.holds w l E → l.length ≤ 2 ^ 40 →
    Calls Tryd.prog F #[fldV f, cv] w fun e w' => e = .returned (.tuple #[]) ∧ ∃ E', M.holds w' (l ++ [f]) E' ∧ (∀ k, E' k → E k ∨ w.heap.size ≤ k) ∧ Upd E w w'

theorem Live.told {B : Nat} {w w' : World} {d : Nat} {M : Emitter} {s : HD.St} {l l' : List HD.Fld} {p : DP} (h : Live B w d M s l p) {E' : Nat → Prop} (hh : M.holds w' l' E') (hE : ∀ k, E' k → p.E k ∨ w.heap.size ≤ k) (hu : Upd p.E w w') : Live B w' d M s l' { p with E := E' } := by
  have hk : ∀ k, tabOwn d p.ev p.m1 p.m2 k → w'.heap[k]? = w.heap[k]? := fun k hk => hu.block k (h.mem.tab.own_lt hk) (h.apart k hk)
  exact ⟨⟨h.mem.tab.frame hk, h.mem.sized, h.mem.allowed, h.mem.on, h.mem.most, h.mem.first⟩, hh, fun k hk => (hE k hk).elim (h.emB k) (fun h' => Nat.le_trans h.lo h'), h.emv, fun k hk he => (hE k he).elim (h.apart k hk) (fun h' => by have := h.mem.tab.own_lt hk; omega), h.ok⟩

set_option maxHeartbeats 1000000 in
set_option maxRecDepth 100000 in
theorem callEmit_any (B : Nat) (w : World) (d : Nat) (M : Emitter) (hM : EmOk B M) (s : HD.St) (l : List HD.Fld) (p : DP) (f : HD.Fld) (hL : Live B w d M s l p) (hl : l.length ≤ 2 ^ 40) :
    Calls Tryd.prog 61 #[.pointer (some ⟨d, 0, none⟩), fldV f] w fun e w' => e = .returned .nilIface ∧ ∃ E', Live B w' d M s (l ++ (HD.tell s f).toList) { p with E := E' } ∧ (∀ k, E' k → p.E k ∨ w.heap.size ≤ k) ∧ Upd p.E w w' := by
  obtain ⟨F, cv, hv, hrun, hcall⟩ := hM.call
  have c8 := hL.row.cell' (i := 8) (by decide) (hL.emv.trans hv)
  have c9 := hL.row.cell' (i := 9) (by decide) hL.mem.on
  have c10 := hL.row.cell' (i := 10) (by decide) hL.mem.most
  have hdl := hL.lt
  obtain ⟨on, hon⟩ : ∃ b, b = s.on := ⟨_, rfl⟩
  rw [← hon] at c9
  have HL := Lib.hid hL
  have Hcall := Lib.hid hcall
  have Hon := Lib.hid hon
  have Hl := Lib.hid hl
  clear hL hcall hon hv hM hl
  have hb1 : Below w.heap.size w (w.alloc (.cells #[.string ⟨f.name.toArray⟩, .string ⟨f.value.toArray⟩, .bool f.sens] 54)) := (Below.refl _ _).alloc (Nat.le_refl _) _
  have hl1 := HL.out.below hb1
  have q0 : (w.alloc (.cells #[.string ⟨f.name.toArray⟩, .string ⟨f.value.toArray⟩, .bool f.sens] 54)).cell? ⟨w.heap.size, 0, none⟩ = some (.string ⟨f.name.toArray⟩) := (Lib.cell_of_heap (heap_alloc_new w _) 0).trans rfl
  have q1 : (w.alloc (.cells #[.string ⟨f.name.toArray⟩, .string ⟨f.value.toArray⟩, .bool f.sens] 54)).cell? ⟨w.heap.size, 1, none⟩ = some (.string ⟨f.value.toArray⟩) := (Lib.cell_of_heap (heap_alloc_new w _) 1).trans rfl
  have q2 : (w.alloc (.cells #[.string ⟨f.name.toArray⟩, .string ⟨f.value.toArray⟩, .bool f.sens] 54)).cell? ⟨w.heap.size, 2, none⟩ = some (.bool f.sens) := (Lib.cell_of_heap (heap_alloc_new w _) 2).trans rfl
  have e8 := (hb1.cell (p := ⟨d, 8, none⟩) hdl).trans c8
  have HQ := Lib.hid (And.intro e8 (And.intro q0 (And.intro q1 q2)))
  have Hb1 := Lib.hid hb1
  have Hl1 := Lib.hid hl1
  clear hb1 hl1 q0 q1 q2 e8
  unfold fldV
  cases on with
  | false =>
    go_enter Tryd.func61, Tryd.ntmps61
    go_wp2_with fail
    go_ret
    have ht : HD.tell s f = none := by unfold HD.tell; rw [← Hon.out]; rfl
    rw [ht]
    refine ⟨rfl, p.E, ?_, fun k h => Or.inl h, Upd.of_below Hb1.out⟩
    show Live B _ d M s (l ++ []) p
    rw [List.append_nil]
    exact Hl1.out
  | true =>
    have ht : HD.tell s f = some f := by unfold HD.tell; rw [← Hon.out]; rfl
    rw [ht]
    go_enter Tryd.func61, Tryd.ntmps61
    go_wp2_with fail
    refine wp_region_held_drew (S := (fun w' => w'.cell? ⟨d, 8, none⟩ = some (.func (.func F) #[] #[cv]) ∧ w'.cell? ⟨w.heap.size, 0, none⟩ = some (.string ⟨f.name.toArray⟩) ∧ w'.cell? ⟨w.heap.size, 1, none⟩ = some (.string ⟨f.value.toArray⟩) ∧ w'.cell? ⟨w.heap.size, 2, none⟩ = some (.bool f.sens))) (by kernel_rfl) ((by exact HQ.out)) (fun hHeld => ?_)
    refine takeH 0 (v := ?_) rfl rfl (by kernel_rfl) (by kernel_rfl) (by kernel_rfl) (fun _ _ _ h => h) (Or.inl ⟨by rfl, ?_⟩) (by assumption) ?_
    rotate_left
    · (intro w hSw; (try dsimp only at hSw); go_simp <;> with_reducible rfl)
    simp only [List.setIfInBounds_toArray, List.set_cons_zero, List.set_cons_succ]
    refine takeH 1 (v := ?_) rfl rfl (by kernel_rfl) (by kernel_rfl) (by kernel_rfl) (fun _ _ _ h => h) (Or.inl ⟨by rfl, ?_⟩) (by assumption) ?_
    rotate_left
    · (intro w hSw; (try dsimp only at hSw); go_simp <;> with_reducible rfl)
    simp only [List.setIfInBounds_toArray, List.set_cons_zero, List.set_cons_succ]
    refine takeH 2 (v := ?_) rfl rfl (by kernel_rfl) (by kernel_rfl) (by kernel_rfl) (fun _ _ _ h => h) (Or.inl ⟨by rfl, ?_⟩) (by assumption) ?_
    rotate_left
    · (intro w hSw; (try dsimp only at hSw); go_simp <;> with_reducible rfl)
    simp only [List.setIfInBounds_toArray, List.set_cons_zero, List.set_cons_succ]
    refine takeH 3 (v := ?_) rfl rfl (by kernel_rfl) (by kernel_rfl) (by kernel_rfl) (fun _ _ _ h => h) (Or.inl ⟨by rfl, ?_⟩) (by assumption) ?_
    rotate_left
    · (intro w hSw; (try dsimp only at hSw); go_simp <;> with_reducible rfl)
    simp only [List.setIfInBounds_toArray, List.set_cons_zero, List.set_cons_succ]
    refine takeH 4 (v := ?_) rfl rfl (by kernel_rfl) (by kernel_rfl) (by kernel_rfl) (fun _ _ _ h => h) (Or.inl ⟨by rfl, ?_⟩) (by assumption) ?_
    rotate_left
    · (intro w hSw; (try dsimp only at hSw); go_simp <;> with_reducible rfl)
    simp only [List.setIfInBounds_toArray, List.set_cons_zero, List.set_cons_succ]
    refine wpAnyH_ready (rs := [5]) (by kernel_rfl) (by simp) ?_
    refine AllReadyH.cons rfl (fun K hK => ?_) AllReadyH.nil
    go_simp
    refine (Hcall.out _ l p.E f (by have := HL.out.lo; show B ≤ (w.heap.push _).size; simp; omega) (M.frame (w' := World.drew _) Hl1.out.em fun _ _ => rfl) Hl.out).mono ?_
    rintro e w2 ⟨rfl, E', hh, hE, hu⟩
    go_simp
    refine hK.out _ _ ?_ (fun hHeld => ?_)
    · have hd : ¬ p.E d := HL.out.dE
      have hw : ¬ p.E w.heap.size := fun h => Nat.lt_irrefl _ (M.lt HL.out.em h)
      have hs : d < (w.alloc (.cells #[.string ⟨f.name.toArray⟩, .string ⟨f.value.toArray⟩, .bool f.sens] 54)).heap.size := by simp; omega
      have hs2 : w.heap.size < (w.alloc (.cells #[.string ⟨f.name.toArray⟩, .string ⟨f.value.toArray⟩, .bool f.sens] 54)).heap.size := by simp
      have k1 := hu.block d hs hd
      have k2 := hu.block w.heap.size hs2 hw
      exact ⟨(World.cell?_of_block (a := ⟨d, 8, none⟩) k1).trans HQ.out.1, (World.cell?_of_block (a := ⟨w.heap.size, 0, none⟩) k2).trans HQ.out.2.1, (World.cell?_of_block (a := ⟨w.heap.size, 1, none⟩) k2).trans HQ.out.2.2.1, (World.cell?_of_block (a := ⟨w.heap.size, 2, none⟩) k2).trans HQ.out.2.2.2⟩
    clear hK K
    have hE' : ∀ k, E' k → p.E k ∨ w.heap.size ≤ k := fun k h => (hE k h).imp id fun h' => Nat.le_trans Hb1.out.size h'
    have hu' : Upd p.E w w2 := ((Upd.of_below Hb1.out).drew).step hu
    have Hh := Lib.hid hh
    have HE' := Lib.hid hE'
    have Hu' := Lib.hid hu'
    clear hh hE hu hE' hu' hHeld
    refine wpAnyH_done (by kernel_rfl) ?_ _
    go_wp2_with fail
    go_ret
    exact ⟨rfl, E', HL.out.told Hh.out HE'.out Hu'.out, HE'.out, Hu'.out⟩
end Go.Proofs.YtmlnmllnlekcgaaDoor
/-
  staticTable's one great region draws its order: an invariant that every operation keeps, whichever comes up. Plain part: the operations, what each waits for.
-/
namespace Go.Proofs.YtmlnmllnlekcgaaDoor
open Go.ChangeShapes Go.WideShapes Go.ChangeAt Go.RowKit

section any
variable {P : Program} {ops : Array Oper} {Q : Exit → Act → World → Prop} {md : Region.Mode}
def lis (L : Array Bool) (i : Nat) : Prop := L.getD i false = true
def left (L : Array Bool) (n : Nat) : Nat := ((List.range n).filter fun i => !L.getD i true).length
theorem getD_set (L : Array Bool) (i j : Nat) (d : Bool) : (L.setIfInBounds i true).getD j d = if j = i ∧ i < L.size then true else L.getD j d := by
  simp only [Array.getD_eq_getD_getElem?]
  by_cases h : j = i
  · subst h
    by_cases hl : j < L.size
    · simp [hl]
    · simp [hl]
  · rw [Array.getElem?_setIfInBounds_ne (Ne.symm h)]; simp [h]
theorem left_set {L : Array Bool} {n i : Nat} (hi : i < n) (h : L.getD i true = false) : left (L.setIfInBounds i true) n < left L n := by
  have hl : i < L.size := by
    rcases Nat.lt_or_ge i L.size with h' | h'
    · exact h'
    · simp [Array.getElem?_eq_none h'] at h
  unfold left
  have e : (List.range n).filter (fun j => !(L.setIfInBounds i true).getD j true) = ((List.range n).filter fun j => !L.getD j true).filter fun j => !decide (j = i) := by
    rw [List.filter_filter]
    congr 1
    funext j
    rw [getD_set]
    by_cases hj : j = i <;> simp [hj, hl]
  rw [e, List.length_filter_lt_length_iff_exists]
  exact ⟨i, by simp [hi]; simpa using h, by simp⟩
theorem wpAny_inv (I : Array Bool → Act → World → Prop) (hstep : ∀ L a w i, I L a w → i ∈ Region.ready md ops L → wpOp P ops Q i (fun a' w' => I (L.setIfInBounds i true) a' w') a w)
    (hdone : ∀ L a w, I L a w → Region.ready md ops L = [] → Q .normal a w) : ∀ (fuel : Nat) (L : Array Bool) (a : Act) (w : World), I L a w → left L ops.size ≤ fuel → wpAny P md ops Q fuel L a w
  | 0, L, a, w, hI, hf => by
    have hr : Region.ready md ops L = [] := by
      cases hr : Region.ready md ops L with
      | nil => rfl
      | cons i l =>
        obtain ⟨h1, o, ho, -⟩ := mem_ready.1 (show i ∈ Region.ready md ops L by rw [hr]; simp)
        have hi : i < ops.size := (Array.getElem?_eq_some_iff.1 ho).1
        have := left_set hi h1
        omega
    exact ⟨hr, hdone L a w hI hr⟩
  | n + 1, L, a, w, hI, hf => ⟨hdone L a w hI, fun i hi => wpOp_mono (fun a' w' h' => wpAny_inv I hstep hdone n _ a' w' h' (by
      obtain ⟨h1, o, ho, -⟩ := mem_ready.1 hi
      have := left_set (Array.getElem?_eq_some_iff.1 ho).1 h1
      omega)) (hstep L a w i hI hi)⟩
theorem all_listed {L : Array Bool} (hL : L.size = ops.size) (hac : ∀ (i : Nat) o, ops[i]? = some o → ∀ e ∈ o.after, e.on < i) (hr : Region.ready md ops L = []) : ∀ i, i < ops.size → lis L i := by
  intro i
  induction i using Nat.strongRecOn with
  | ind i ih =>
    intro hi
    rcases Bool.eq_false_or_eq_true (L.getD i true) with h | h
    · unfold lis
      simp only [Array.getD_eq_getD_getElem?, Array.getElem?_eq_getElem (show i < L.size by omega), Option.getD_some] at h ⊢
      exact h
    · exfalso
      have : i ∈ Region.ready md ops L := mem_ready.2 ⟨h, ops[i], Array.getElem?_eq_getElem hi, fun e he _ => ih e.on (hac i _ (Array.getElem?_eq_getElem hi) e he) (Nat.lt_trans (hac i _ (Array.getElem?_eq_getElem hi) e he) hi)⟩
      rw [hr] at this; cases this
theorem wpOp_plain {i : Nat} {o : Oper} {K : Act → World → Prop} {a : Act} {w : World} (ho : ops[i]? = some o) (hg : o.guard = none) (h : o.wp P a w K Q) : wpOp P ops Q i K a w := by
  unfold wpOp
  rw [ho]
  have : Region.wanted o (yielded ops a.tmps) = true := by simp [Region.wanted, hg]
  simp only [this, if_true]
  exact Or.inl h
end any

/-- The operations of staticTable. -/
inductive SK where
  | mk1 | mk2 | mv2 | mv65 | sl | st | bx | fin
  | in1 (k : HD.Bs) (v : Nat)
  | bp (e : HD.Bs × HD.Bs) (t : Nat)
  | in2 (e : HD.Bs × HD.Bs) (v t : Nat)
  | bf (e : HD.Bs × HD.Bs) (t : Nat)
namespace SK
def dst : SK → Option Nat
  | mk1 => some 1
  | mk2 => some 3
  | mv2 => some 2
  | mv65 => some 65
  | sl => some 127
  | st => some 128
  | bx => some 129
  | fin => some 0
  | in1 _ _ => none
  | bp _ t => some t
  | in2 _ _ _ => none
  | bf _ t => some t
def op : SK → Op
  | mk1 => .makeMap 66 none
  | mk2 => .makeMap 67 none
  | mv2 => .move (.tmp 1)
  | mv65 => .move (.tmp 3)
  | sl => .buildSlice 64 61 ((List.range 61).map fun i => (i, .tmp (66 + i))).toArray
  | st => .build 69 #[(0, .const (.bool true)), (2, .const (.int .u64 0)), (3, .tmp 2), (4, .tmp 65), (1, .tmp 127)]
  | bx => .box 69 (.tmp 128)
  | fin => .assign (.tmp 129)
  | in1 k v => .insert 66 (.tmp 1) (.const (encS k)) (.const (.int .u64 (v : Nat)))
  | bp e _ => .build 115 #[(0, .const (.string ⟨e.1.toArray⟩)), (1, .const (.string ⟨e.2.toArray⟩))]
  | in2 _ v t => .insert 67 (.tmp 3) (.tmp t) (.const (.int .u64 (v : Nat)))
  | bf e _ => .build 54 #[(0, .const (.string ⟨e.1.toArray⟩)), (1, .const (.string ⟨e.2.toArray⟩)), (2, .const (.bool false))]
/-- What an operation waits for. -/
def needs (i : Nat) : SK → List Nat
  | in1 _ _ => [0]
  | mv2 => [0]
  | in2 _ _ _ => [54, i - 1]
  | mv65 => [54]
  | sl => (List.range 61).map (178 + ·)
  | st => [53, 177, 239]
  | bx => [240]
  | fin => [241]
  | _ => []
end SK
def sCls : List SK := .mk1 :: (HD.statS.map fun p => .in1 p.1 p.2) ++ [.mv2, .mk2] ++ (HD.static.zipIdx.flatMap fun p => [.bp p.1 (4 + p.2), .in2 p.1 (p.2 + 1) (4 + p.2)]) ++ [.mv65] ++ (HD.static.zipIdx.map fun p => .bf p.1 (66 + p.2)) ++ [.sl, .st, .bx, .fin]
noncomputable def sOps : Array Oper := match Tryd.f69.body with
  | some (.seq _ (.seq (.region _ ops _) _)) => ops
  | _ => #[]
theorem sLen : sOps.size = 243 := by kernel_rfl
theorem cLen : sCls.length = 243 := by kernel_rfl
theorem opsFact : sOps.toList.map (fun o => (o.dst, o.op, o.guard)) = sCls.map (fun k => (k.dst, k.op, none)) := by kernel_rfl
theorem depsFact : ((List.range 243).all fun i => match sCls[i]?, sOps[i]? with
    | some k, some o => (k.needs i).all fun t => o.after.any fun e => e.on == t && Region.binds .any e
    | _, _ => false) = true := by kernel_rfl
theorem acycFact : ((List.range 243).all fun i => match sOps[i]? with
    | some o => o.after.all fun e => decide (e.on < i)
    | _ => true) = true := by kernel_rfl
theorem dstFact : ((sCls.filterMap SK.dst).all fun d => decide (d < 130)) = true := by kernel_rfl
theorem dstNodup : (sCls.zipIdx.all fun p => match p.1.dst with
    | none => true
    | some d => sCls.findIdx? (fun q => q.dst == some d) == some p.2) = true := by kernel_rfl
theorem in2Fact : (sCls.zipIdx.all fun p => match p.1 with
    | .in2 e _ t => (match sCls[p.2 - 1]? with
      | some (.bp e' t') => decide (e = e' ∧ t = t')
      | _ => false)
    | _ => true) = true := by kernel_rfl
end Go.Proofs.YtmlnmllnlekcgaaDoor
/-
  The contract of staticTable: what stands in memory behind it, whichever order its region draws.
-/
namespace Go.Proofs.YtmlnmllnlekcgaaDoor
open Go.ChangeShapes Go.WideShapes Go.ChangeAt Go.RowKit

/-- Where the table's parts lie: its two maps, its entries, its struct. -/
structure Bl where
  b1 : Nat
  b2 : Nat
  g : Nat
  x : Nat
def tabCells (B : Bl) : Array Value := #[.bool true, .slice (some ⟨B.g, 0, none⟩) 61 61, .int .u64 0, .map (some B.b1), .map (some B.b2)]
def sval (B : Bl) : SK → Value
  | .mk1 => .map (some B.b1)
  | .mv2 => .map (some B.b1)
  | .mk2 => .map (some B.b2)
  | .mv65 => .map (some B.b2)
  | .sl => .slice (some ⟨B.g, 0, none⟩) 61 61
  | .st => .agg (tabCells B)
  | .bx => .pointer (some ⟨B.x, 0, none⟩)
  | .fin => .pointer (some ⟨B.x, 0, none⟩)
  | .bp e _ => encP e
  | .bf e _ => .agg (eCells e).toArray
  | .in1 _ _ => undef
  | .in2 _ _ _ => undef
def C1 (L : Array Bool) (l : List (HD.Bs × Nat)) : Prop := (∀ p ∈ l, p ∈ HD.statS) ∧ ∀ (j : Nat) k v, sCls[j]? = some (.in1 k v) → lis L j → (k, v) ∈ l
def C2 (L : Array Bool) (l : List ((HD.Bs × HD.Bs) × Nat)) : Prop := (∀ p ∈ l, p ∈ HD.statP) ∧ ∀ (j : Nat) e v t, sCls[j]? = some (.in2 e v t) → lis L j → (e, v) ∈ l
def gObj : Obj := .cells (entCells HD.static).toArray 54 (0, 0)
def xObj (B : Bl) : Obj := .cells (tabCells B) 69 (0, 0)

structure SI (n0 : Nat) (w0 : World) (B : Bl) (L : Array Bool) (a : Act) (w : World) : Prop where
  defers : a.defers = []
  size : a.tmps.size = 130
  lsize : L.size = 243
  below : Below n0 w0 w
  lo : n0 ≤ w.heap.size
  closed : ∀ (j : Nat) k, sCls[j]? = some k → lis L j → ∀ t ∈ k.needs j, lis L t
  slots : ∀ (j : Nat) k d, sCls[j]? = some k → lis L j → k.dst = some d → a.tmps[d]? = some (sval B k)
  h1 : lis L 0 → n0 ≤ B.b1 ∧ ∃ l, MapMem encS w B.b1 l ∧ C1 L l
  h2 : lis L 54 → n0 ≤ B.b2 ∧ ∃ l, MapMem encP w B.b2 l ∧ C2 L l
  h3 : lis L 239 → n0 ≤ B.g ∧ w.heap[B.g]? = some gObj
  h4 : lis L 241 → n0 ≤ B.x ∧ w.heap[B.x]? = some (xObj B)
  h12 : lis L 0 → lis L 54 → B.b1 ≠ B.b2

theorem lis_set {L : Array Bool} {i : Nat} (hi : i < L.size) (j : Nat) : lis (L.setIfInBounds i true) j ↔ j = i ∨ lis L j := by
  unfold lis
  rw [getD_set]
  by_cases h : j = i <;> simp [h, hi]
theorem dst_idx {i : Nat} {k : SK} {d : Nat} (h : sCls[i]? = some k) (hd : k.dst = some d) : sCls.findIdx? (fun q => q.dst == some d) = some i := by
  have := List.all_eq_true.1 dstNodup (k, i) (by rw [List.mem_zipIdx_iff_getElem?]; exact h)
  simpa [hd] using this
theorem idx_unique {i j : Nat} {k q : SK} {d : Nat} (h : sCls[i]? = some k) (h' : sCls[j]? = some q) (hd : k.dst = some d) (hd' : q.dst = some d) : i = j := by
  have e := (dst_idx h hd).symm.trans (dst_idx h' hd')
  simpa using e
theorem dst_lt {i : Nat} {k : SK} {d : Nat} (h : sCls[i]? = some k) (hd : k.dst = some d) : d < 130 := by
  have := List.all_eq_true.1 dstFact d (List.mem_filterMap.2 ⟨k, List.mem_of_getElem? h, hd⟩)
  simpa using this
theorem c0 : sCls[0]? = some .mk1 := by kernel_rfl
theorem c53 : sCls[53]? = some .mv2 := by kernel_rfl
theorem c54 : sCls[54]? = some .mk2 := by kernel_rfl
theorem c177 : sCls[177]? = some .mv65 := by kernel_rfl
theorem c239 : sCls[239]? = some .sl := by kernel_rfl
theorem c240 : sCls[240]? = some .st := by kernel_rfl
theorem c241 : sCls[241]? = some .bx := by kernel_rfl
theorem c242 : sCls[242]? = some .fin := by kernel_rfl

theorem SI.next {n0 : Nat} {w0 : World} {B : Bl} {L : Array Bool} {a : Act} {w : World} (h : SI n0 w0 B L a w) {i : Nat} {k : SK} (hi : sCls[i]? = some k) (hn : ∀ t ∈ k.needs i, lis L t)
    (B' : Bl) (v : Value) (w' : World) (hv : ∀ d, k.dst = some d → v = sval B' k) (hB : ∀ (j : Nat) q, sCls[j]? = some q → lis L j → sval B' q = sval B q) (hb : Below n0 w0 w') (hlo : n0 ≤ w'.heap.size)
    (h1 : 0 = i ∨ lis L 0 → n0 ≤ B'.b1 ∧ ∃ l, MapMem encS w' B'.b1 l ∧ C1 (L.setIfInBounds i true) l) (h2 : 54 = i ∨ lis L 54 → n0 ≤ B'.b2 ∧ ∃ l, MapMem encP w' B'.b2 l ∧ C2 (L.setIfInBounds i true) l)
    (h3 : 239 = i ∨ lis L 239 → n0 ≤ B'.g ∧ w'.heap[B'.g]? = some gObj) (h4 : 241 = i ∨ lis L 241 → n0 ≤ B'.x ∧ w'.heap[B'.x]? = some (xObj B')) (h12 : 0 = i ∨ lis L 0 → 54 = i ∨ lis L 54 → B'.b1 ≠ B'.b2) :
    SI n0 w0 B' (L.setIfInBounds i true) (a.put k.dst v) w' := by
  have hil : i < L.size := by
    rw [h.lsize, ← cLen]; exact (List.getElem?_eq_some_iff.1 hi).1
  have hl := lis_set hil
  refine ⟨?_, ?_, by simp [h.lsize], hb, hlo, ?_, ?_, fun q => h1 ((hl 0).1 q), fun q => h2 ((hl 54).1 q), fun q => h3 ((hl 239).1 q), fun q => h4 ((hl 241).1 q), fun q r => h12 ((hl 0).1 q) ((hl 54).1 r)⟩
  · cases hd : k.dst <;> exact h.defers
  · cases hd : k.dst <;> simp [Act.put, h.size]
  · intro j q hq hj t ht
    rcases (hl j).1 hj with rfl | hj
    · rw [hi] at hq
      obtain rfl := Option.some.inj hq
      exact (hl t).2 (Or.inr (hn t ht))
    · exact (hl t).2 (Or.inr (h.closed j q hq hj t ht))
  · intro j q d hq hj hd
    by_cases hji : j = i
    · subst hji
      rw [hi] at hq
      obtain rfl := Option.some.inj hq
      rw [hd]
      simp only [Act.put]
      rw [Array.getElem?_setIfInBounds_self_of_lt (by rw [h.size]; exact dst_lt hi hd), hv d hd]
    · have hj' : lis L j := ((hl j).1 hj).resolve_left hji
      rw [hB j q hq hj', ← h.slots j q d hq hj' hd]
      cases hd2 : k.dst with
      | none => rfl
      | some d2 =>
        simp only [Act.put]
        rw [Array.getElem?_setIfInBounds_ne (fun e => hji (idx_unique hq hi hd (by rw [hd2, e])))]
theorem SI.ev {n0 : Nat} {w0 : World} {B : Bl} {L : Array Bool} {a : Act} {w : World} (h : SI n0 w0 B L a w) {j : Nat} {k : SK} {d : Nat} (hj : sCls[j]? = some k) (hl : lis L j) (hd : k.dst = some d) : a.eval (.tmp d) = sval B k := by
  simp [Act.eval, Array.getD_eq_getD_getElem?, h.slots j k d hj hl hd]
/-- An operation that makes no block and writes none. -/
theorem SI.quiet {n0 : Nat} {w0 : World} {B : Bl} {L : Array Bool} {a : Act} {w : World} (h : SI n0 w0 B L a w) {i : Nat} {k : SK} (hi : sCls[i]? = some k) (hn : ∀ t ∈ k.needs i, lis L t) (v : Value) (hv : ∀ d, k.dst = some d → v = sval B k)
    (k1 : k ≠ .mk1) (k2 : k ≠ .mk2) (k3 : k ≠ .sl) (k4 : k ≠ .bx) (k5 : ∀ e v, k ≠ .in1 e v) (k6 : ∀ e v t, k ≠ .in2 e v t) : SI n0 w0 B (L.setIfInBounds i true) (a.put k.dst v) w := by
  have hil : i < L.size := by
    rw [h.lsize, ← cLen]; exact (List.getElem?_eq_some_iff.1 hi).1
  have ne : ∀ (j : Nat) q, sCls[j]? = some q → k ≠ q → j ≠ i := fun j q hq hk e => hk (by rw [e, hi] at hq; exact Option.some.inj hq)
  refine h.next hi hn B v w hv (fun _ _ _ _ => rfl) h.below h.lo ?_ ?_ ?_ ?_ ?_
  · intro q
    obtain ⟨a1, l, a2, a3, a4⟩ := h.h1 (q.resolve_left (ne 0 _ c0 k1))
    exact ⟨a1, l, a2, a3, fun j e v hj hl => a4 j e v hj (((lis_set hil j).1 hl).resolve_left (ne j _ hj (k5 e v)))⟩
  · intro q
    obtain ⟨a1, l, a2, a3, a4⟩ := h.h2 (q.resolve_left (ne 54 _ c54 k2))
    exact ⟨a1, l, a2, a3, fun j e v t hj hl => a4 j e v t hj (((lis_set hil j).1 hl).resolve_left (ne j _ hj (k6 e v t)))⟩
  · exact fun q => h.h3 (q.resolve_left (ne 239 _ c239 k3))
  · exact fun q => h.h4 (q.resolve_left (ne 241 _ c241 k4))
  · exact fun q r => h.h12 (q.resolve_left (ne 0 _ c0 k1)) (r.resolve_left (ne 54 _ c54 k2))

theorem built_pair (a b : ByteArray) : Tryd.prog.built 115 [(0, .string a), (1, .string b)] = some #[.string a, .string b] := by kernel_rfl
theorem built_field (a b : ByteArray) : Tryd.prog.built 54 [(0, .string a), (1, .string b), (2, .bool false)] = some #[.string a, .string b, .bool false] := by kernel_rfl
theorem built_tab (b1 b2 g : Nat) : Tryd.prog.built 69 [(0, .bool true), (2, .int .u64 0), (3, .map (some b1)), (4, .map (some b2)), (1, .slice (some ⟨g, 0, none⟩) 61 61)] = some #[.bool true, .slice (some ⟨g, 0, none⟩) 61 61, .int .u64 0, .map (some b1), .map (some b2)] := by kernel_rfl
def fv (i : Nat) : Value := match HD.static[i]? with
  | some e => .agg (eCells e).toArray
  | none => undef
theorem bfFact : ((List.range 61).all fun i => match sCls[178 + i]?, HD.static[i]? with
    | some (.bf e t), some e' => decide (e = e' ∧ t = 66 + i)
    | _, _ => false) = true := by kernel_rfl
theorem infoF : (Tryd.prog.info? 54).map (fun i => (i.zero, i.size)) = some (some (.agg #[.string ByteArray.empty, .string ByteArray.empty, .bool false]), 3) := by kernel_rfl
theorem fillFact : Instr.fill (fun i => some (i * 3, 3)) ((Array.range (61 * 3)).map ((Value.agg #[.string ByteArray.empty, .string ByteArray.empty, .bool false]).cells[· % (Value.agg #[.string ByteArray.empty, .string ByteArray.empty, .bool false]).cells.size]!)) ((List.range 61).map fun i => (i, fv i)) = some (entCells HD.static).toArray := by kernel_rfl
theorem in1Fact : (sCls.all fun k => match k with
    | .in1 k v => HD.statS.contains (k, v)
    | _ => true) = true := by kernel_rfl
theorem in2Fact2 : (sCls.all fun k => match k with
    | .in2 e v _ => HD.statP.contains (e, v)
    | _ => true) = true := by kernel_rfl
theorem uniqS : (HD.statS.all fun p => HD.statS.all fun q => decide (p.1 = q.1 → p.2 = q.2)) = true := by kernel_rfl
theorem uniqP : (HD.statP.all fun p => HD.statP.all fun q => decide (p.1 = q.1 → p.2 = q.2)) = true := by kernel_rfl

theorem mem_mput {K : Type} [DecidableEq K] {l : List (K × Nat)} {k : K} {v : Nat} : (k, v) ∈ mput l k v := by
  unfold mput
  split
  · rename_i h
    obtain ⟨p, hp, rfl⟩ := List.mem_map.1 h
    exact List.mem_map.2 ⟨p, hp, by simp⟩
  · simp
theorem mem_mput_old {K : Type} [DecidableEq K] {l : List (K × Nat)} {k : K} {v : Nat} {p : K × Nat} (hp : p ∈ l) (hu : p.1 = k → p.2 = v) : p ∈ mput l k v := by
  unfold mput
  split
  · refine List.mem_map.2 ⟨p, hp, ?_⟩
    split
    · rename_i h; rw [← hu h]
    · rfl
  · simp [hp]
theorem of_mem_mput {K : Type} [DecidableEq K] {l : List (K × Nat)} {k : K} {v : Nat} {p : K × Nat} (hp : p ∈ mput l k v) : p = (k, v) ∨ p ∈ l := by
  unfold mput at hp
  split at hp
  · obtain ⟨q, hq, rfl⟩ := List.mem_map.1 hp
    split
    · rename_i h; exact Or.inl (by rw [← h])
    · exact Or.inr hq
  · simpa [or_comm] using hp
end Go.Proofs.YtmlnmllnlekcgaaDoor
/-
  The contract of staticTable: each operation keeps the invariant; what stands in memory behind it.
-/
namespace Go.Proofs.YtmlnmllnlekcgaaDoor
open Go.ChangeShapes Go.WideShapes Go.ChangeAt Go.RowKit

theorem below_alloc {n0 : Nat} {w0 w : World} (h : Below n0 w0 w) (hl : n0 ≤ w.heap.size) (o : Obj) : Below n0 w0 (w.alloc o) := h.alloc hl o
theorem below_grown {n0 : Nat} {w0 w w' : World} (h : Below n0 w0 w) (hl : n0 ≤ w.heap.size) {b : Nat} (hg : w.grownBy w' (some b)) (hb : n0 ≤ b) : Below n0 w0 w' :=
  h.trans ⟨hg.os, hg.tape, hg.output, hg.size, fun k hk => hg.block k (by omega) (fun e => by have := Option.some.inj e; omega)⟩

set_option maxRecDepth 100000 in
theorem si_step {n0 : Nat} {w0 : World} {Q : Exit → Act → World → Prop} (L : Array Bool) (a : Act) (w : World) (i : Nat) (hI : ∃ B, SI n0 w0 B L a w) (hr : i ∈ Region.ready .any sOps L) :
    wpOp Tryd.prog sOps Q i (fun a' w' => ∃ B, SI n0 w0 B (L.setIfInBounds i true) a' w') a w := by
  obtain ⟨B, h⟩ := hI
  obtain ⟨hun, o, ho, haft⟩ := mem_ready.1 hr
  have hi : i < 243 := by rw [← sLen]; exact (Array.getElem?_eq_some_iff.1 ho).1
  obtain ⟨k, hk⟩ : ∃ k, sCls[i]? = some k := ⟨_, List.getElem?_eq_getElem (by rw [cLen]; exact hi)⟩
  have hil : i < L.size := by rw [h.lsize]; exact hi
  have hun' : ¬ lis L i := by
    unfold lis
    simp only [Array.getD_eq_getD_getElem?, Array.getElem?_eq_getElem hil, Option.getD_some] at hun ⊢
    simp [hun]
  obtain ⟨hdst, hop, hg⟩ : o.dst = k.dst ∧ o.op = k.op ∧ o.guard = none := by
    have e : (sOps.toList.map (fun o => (o.dst, o.op, o.guard)))[i]? = (sCls.map (fun k => (k.dst, k.op, none)))[i]? := by rw [opsFact]
    rw [List.getElem?_map, List.getElem?_map, hk, Array.getElem?_toList, ho] at e
    have e' := Option.some.inj e
    exact ⟨congrArg (·.1) e', congrArg (·.2.1) e', congrArg (·.2.2) e'⟩
  have hn : ∀ t ∈ k.needs i, lis L t := by
    have := List.all_eq_true.1 depsFact i (List.mem_range.2 hi)
    rw [hk, ho] at this
    intro t ht
    obtain ⟨e, he, he2⟩ := Array.any_eq_true'.1 (List.all_eq_true.1 this t ht)
    simp only [Bool.and_eq_true, beq_iff_eq] at he2
    have := haft e he he2.2
    rwa [he2.1] at this
  refine wpOp_plain ho hg ?_
  unfold Oper.wp
  rw [show execOp a.eval o = execOp a.eval { o with op := k.op } by unfold execOp; rw [hop]]
  have hset : ∀ j, lis (L.setIfInBounds i true) j → j = i ∨ lis L j := fun j => (lis_set hil j).1
  have ne : ∀ (j : Nat) q, sCls[j]? = some q → k ≠ q → j ≠ i := fun j q hq hkq e => hkq (by rw [e, hk] at hq; exact Option.some.inj hq)
  cases k with
  | mk1 =>
    obtain rfl : i = 0 := idx_unique hk c0 (d := 1) rfl rfl
    simp only [SK.op, execOp, Option.map_none, Sem.run_bind, run_makeMap, Result.andThen_ok, Sem.run_pure, Oper.upon]
    rw [hdst]
    refine ⟨Bl.mk w.heap.size B.b2 B.g B.x, h.next hk hn _ _ _ (fun d _ => rfl) ?_ (h.below.alloc h.lo _) (by simp; have := h.lo; omega) ?_ ?_ ?_ ?_ ?_⟩
    · intro j q hq hj
      have h53 : ¬ lis L 53 := fun h' => hun' (h.closed 53 _ c53 h' 0 (by simp [SK.needs]))
      cases q with
      | mk1 => exact absurd ((idx_unique hq c0 (d := 1) rfl rfl) ▸ hj) hun'
      | mv2 => exact absurd (h.closed j _ hq hj 0 (by simp [SK.needs])) hun'
      | st => exact absurd (h.closed j _ hq hj 53 (by simp [SK.needs])) h53
      | _ => rfl
    · intro _
      exact ⟨h.lo, [], mapMem_mk w, fun p hp => (List.not_mem_nil hp).elim, fun j e v hj hl => by
        rcases hset j hl with rfl | hl
        · rw [c0] at hj; cases hj
        · exact absurd (h.closed j _ hj hl 0 (by simp [SK.needs])) hun'⟩
    · intro q
      obtain ⟨a1, l, a2, a3, a4⟩ := h.h2 (q.resolve_left (by decide))
      exact ⟨a1, l, a2.of_heap (Below.heap_alloc _ _ _ a2.lt), a3, fun j e v t hj hl => a4 j e v t hj ((hset j hl).resolve_left (ne j _ hj (by simp)))⟩
    · intro q
      obtain ⟨a1, a2⟩ := h.h3 (q.resolve_left (by decide))
      exact ⟨a1, (Below.heap_alloc _ _ _ (Array.getElem?_eq_some_iff.1 a2).1).trans a2⟩
    · intro q
      have h241 := q.resolve_left (by decide)
      have h240 := h.closed 241 _ c241 h241 240 (by simp [SK.needs])
      have h53 := h.closed 240 _ c240 h240 53 (by simp [SK.needs])
      exact absurd (h.closed 53 _ c53 h53 0 (by simp [SK.needs])) hun'
    · intro _ r
      obtain ⟨a1, l, a2, -⟩ := h.h2 (r.resolve_left (by decide))
      exact Nat.ne_of_gt a2.lt
  | mk2 =>
    obtain rfl : i = 54 := idx_unique hk c54 (d := 3) rfl rfl
    simp only [SK.op, execOp, Option.map_none, Sem.run_bind, run_makeMap, Result.andThen_ok, Sem.run_pure, Oper.upon]
    rw [hdst]
    refine ⟨Bl.mk B.b1 w.heap.size B.g B.x, h.next hk hn _ _ _ (fun d _ => rfl) ?_ (h.below.alloc h.lo _) (by simp; have := h.lo; omega) ?_ ?_ ?_ ?_ ?_⟩
    · intro j q hq hj
      have h177 : ¬ lis L 177 := fun h' => hun' (h.closed 177 _ c177 h' 54 (by simp [SK.needs]))
      cases q with
      | mk2 => exact absurd ((idx_unique hq c54 (d := 3) rfl rfl) ▸ hj) hun'
      | mv65 => exact absurd (h.closed j _ hq hj 54 (by simp [SK.needs])) hun'
      | st => exact absurd (h.closed j _ hq hj 177 (by simp [SK.needs])) h177
      | _ => rfl
    · intro q
      obtain ⟨a1, l, a2, a3, a4⟩ := h.h1 (q.resolve_left (by decide))
      exact ⟨a1, l, a2.of_heap (Below.heap_alloc _ _ _ a2.lt), a3, fun j e v hj hl => a4 j e v hj ((hset j hl).resolve_left (ne j _ hj (by simp)))⟩
    · intro _
      exact ⟨h.lo, [], mapMem_mk w, fun p hp => (List.not_mem_nil hp).elim, fun j e v t hj hl => by
        rcases hset j hl with rfl | hl
        · rw [c54] at hj; cases hj
        · exact absurd (h.closed j _ hj hl 54 (by simp [SK.needs])) hun'⟩
    · intro q
      obtain ⟨a1, a2⟩ := h.h3 (q.resolve_left (by decide))
      exact ⟨a1, (Below.heap_alloc _ _ _ (Array.getElem?_eq_some_iff.1 a2).1).trans a2⟩
    · intro q
      have h241 := q.resolve_left (by decide)
      have h240 := h.closed 241 _ c241 h241 240 (by simp [SK.needs])
      have h177 := h.closed 240 _ c240 h240 177 (by simp [SK.needs])
      exact absurd (h.closed 177 _ c177 h177 54 (by simp [SK.needs])) hun'
    · intro r _
      obtain ⟨a1, l, a2, -⟩ := h.h1 (r.resolve_left (by decide))
      exact Nat.ne_of_lt a2.lt
  | mv2 =>
    simp only [SK.op, execOp, Sem.run_pure, Oper.upon]
    rw [hdst, h.ev (d := 1) c0 (hn 0 (by simp [SK.needs])) rfl]
    exact ⟨B, h.quiet hk hn _ (fun d _ => rfl) (by simp) (by simp) (by simp) (by simp) (by simp) (by simp)⟩
  | mv65 =>
    simp only [SK.op, execOp, Sem.run_pure, Oper.upon]
    rw [hdst, h.ev (d := 3) c54 (hn 54 (by simp [SK.needs])) rfl]
    exact ⟨B, h.quiet hk hn _ (fun d _ => rfl) (by simp) (by simp) (by simp) (by simp) (by simp) (by simp)⟩
  | fin =>
    simp only [SK.op, execOp, Sem.run_pure, Oper.upon]
    rw [hdst, h.ev (d := 129) c241 (hn 241 (by simp [SK.needs])) rfl]
    exact ⟨B, h.quiet hk hn _ (fun d _ => rfl) (by simp) (by simp) (by simp) (by simp) (by simp) (by simp)⟩
  | bp e t =>
    have hb := run_build (P := Tryd.prog) w 115 #[(0, .string ⟨e.1.toArray⟩), (1, .string ⟨e.2.toArray⟩)] _ (built_pair _ _)
    simp only [SK.op, execOp, List.map_toArray, List.map_cons, List.map_nil, Act.eval, Sem.run_bind, hb, Result.andThen_ok, Sem.run_pure, Oper.upon]
    rw [hdst]
    exact ⟨B, h.quiet hk hn _ (fun d _ => rfl) (by simp) (by simp) (by simp) (by simp) (by simp) (by simp)⟩
  | bf e t =>
    have hb := run_build (P := Tryd.prog) w 54 #[(0, .string ⟨e.1.toArray⟩), (1, .string ⟨e.2.toArray⟩), (2, .bool false)] _ (built_field _ _)
    simp only [SK.op, execOp, List.map_toArray, List.map_cons, List.map_nil, Act.eval, Sem.run_bind, hb, Result.andThen_ok, Sem.run_pure, Oper.upon]
    rw [hdst]
    exact ⟨B, h.quiet hk hn _ (fun d _ => rfl) (by simp) (by simp) (by simp) (by simp) (by simp) (by simp)⟩
  | st =>
    have e2 := h.ev (d := 2) c53 (hn 53 (by simp [SK.needs])) rfl
    have e65 := h.ev (d := 65) c177 (hn 177 (by simp [SK.needs])) rfl
    have e127 := h.ev (d := 127) c239 (hn 239 (by simp [SK.needs])) rfl
    have hb := run_build (P := Tryd.prog) w 69 #[(0, .bool true), (2, .int .u64 0), (3, .map (some B.b1)), (4, .map (some B.b2)), (1, .slice (some ⟨B.g, 0, none⟩) 61 61)] _ (built_tab B.b1 B.b2 B.g)
    have ec1 : a.eval (.const (.bool true)) = .bool true := rfl
    have ec2 : a.eval (.const (.int .u64 0)) = .int .u64 0 := rfl
    simp only [SK.op, execOp, List.map_toArray, List.map_cons, List.map_nil, e2, e65, e127, ec1, ec2, sval, Sem.run_bind, hb, Result.andThen_ok, Sem.run_pure, Oper.upon]
    rw [hdst]
    exact ⟨B, h.quiet hk hn _ (fun d _ => rfl) (by simp) (by simp) (by simp) (by simp) (by simp) (by simp)⟩
  | bx =>
    obtain rfl : i = 241 := idx_unique hk c241 (d := 129) rfl rfl
    have e128 := h.ev (d := 128) c240 (hn 240 (by simp [SK.needs])) rfl
    have hb : (Instr.box 69 (.agg (tabCells B))).run Tryd.prog w = .ok (.pointer (some ⟨w.heap.size, 0, none⟩)) (w.alloc (.cells (tabCells B) 69)) := rfl
    simp only [SK.op, execOp, e128, sval, Sem.run_bind, hb, Result.andThen_ok, Sem.run_pure, Oper.upon]
    rw [hdst]
    refine ⟨Bl.mk B.b1 B.b2 B.g w.heap.size, h.next hk hn _ _ _ (fun d _ => rfl) ?_ (h.below.alloc h.lo _) (by simp; have := h.lo; omega) ?_ ?_ ?_ ?_ ?_⟩
    · intro j q hq hj
      cases q with
      | bx => exact absurd ((idx_unique hq c241 (d := 129) rfl rfl) ▸ hj) hun'
      | fin => exact absurd (h.closed j _ hq hj 241 (by simp [SK.needs])) hun'
      | _ => rfl
    · intro q
      obtain ⟨a1, l, a2, a3, a4⟩ := h.h1 (q.resolve_left (by decide))
      exact ⟨a1, l, a2.of_heap (Below.heap_alloc _ _ _ a2.lt), a3, fun j e v hj hl => a4 j e v hj ((hset j hl).resolve_left (ne j _ hj (by simp)))⟩
    · intro q
      obtain ⟨a1, l, a2, a3, a4⟩ := h.h2 (q.resolve_left (by decide))
      exact ⟨a1, l, a2.of_heap (Below.heap_alloc _ _ _ a2.lt), a3, fun j e v t hj hl => a4 j e v t hj ((hset j hl).resolve_left (ne j _ hj (by simp)))⟩
    · intro q
      obtain ⟨a1, a2⟩ := h.h3 (q.resolve_left (by decide))
      exact ⟨a1, (Below.heap_alloc _ _ _ (Array.getElem?_eq_some_iff.1 a2).1).trans a2⟩
    · intro _
      exact ⟨h.lo, heap_alloc_new w _⟩
    · intro q r
      exact h.h12 (q.resolve_left (by decide)) (r.resolve_left (by decide))
  | sl =>
    obtain rfl : i = 239 := idx_unique hk c239 (d := 127) rfl rfl
    have hparts : ((((List.range 61).map fun i => (i, Operand.tmp (66 + i))).toArray.map fun (i, x) => (i, a.eval x))).toList = (List.range 61).map fun i => (i, fv i) := by
      simp only [List.map_toArray, List.map_map]
      refine List.map_congr_left fun j hj => ?_
      have hj' : j < 61 := List.mem_range.1 hj
      have := List.all_eq_true.1 bfFact j hj
      have hl : lis L (178 + j) := hn _ (by simp [SK.needs]; exact hj')
      split at this
      · rename_i e t e' h1 h2
        obtain ⟨rfl, rfl⟩ := of_decide_eq_true this
        have := h.ev (d := 66 + j) h1 hl rfl
        simp only [Function.comp, this, fv, h2, sval]
      · cases this
    obtain ⟨ie, hie, hz, hs⟩ : ∃ ie, Tryd.prog.info? 54 = some ie ∧ ie.zero = some (.agg #[.string ByteArray.empty, .string ByteArray.empty, .bool false]) ∧ ie.size = 3 := by
      have hF := infoF
      cases hi : Tryd.prog.info? 54 with
      | none => rw [hi] at hF; cases hF
      | some ie =>
        rw [hi] at hF
        simp at hF
        exact ⟨ie, rfl, hF.1, hF.2⟩
    have hb := run_buildSlice (P := Tryd.prog) w 64 54 61 ((((List.range 61).map fun i => (i, Operand.tmp (66 + i))).toArray.map fun (i, x) => (i, a.eval x))) (entCells HD.static).toArray ie _ Tryd.underlying64 hie hz (by rw [hs]; decide) (by rw [hs]; decide) (by rw [hs, hparts]; exact fillFact)
    simp only [SK.op, execOp, Sem.run_bind, hb, Result.andThen_ok, Sem.run_pure, Oper.upon]
    rw [hdst]
    refine ⟨Bl.mk B.b1 B.b2 w.heap.size B.x, h.next hk hn _ _ _ (fun d _ => rfl) ?_ (h.below.alloc h.lo _) (by simp; have := h.lo; omega) ?_ ?_ ?_ ?_ ?_⟩
    · intro j q hq hj
      cases q with
      | sl => exact absurd ((idx_unique hq c239 (d := 127) rfl rfl) ▸ hj) hun'
      | st => exact absurd (h.closed j _ hq hj 239 (by simp [SK.needs])) hun'
      | _ => rfl
    · intro q
      obtain ⟨a1, l, a2, a3, a4⟩ := h.h1 (q.resolve_left (by decide))
      exact ⟨a1, l, a2.of_heap (Below.heap_alloc _ _ _ a2.lt), a3, fun j e v hj hl => a4 j e v hj ((hset j hl).resolve_left (ne j _ hj (by simp)))⟩
    · intro q
      obtain ⟨a1, l, a2, a3, a4⟩ := h.h2 (q.resolve_left (by decide))
      exact ⟨a1, l, a2.of_heap (Below.heap_alloc _ _ _ a2.lt), a3, fun j e v t hj hl => a4 j e v t hj ((hset j hl).resolve_left (ne j _ hj (by simp)))⟩
    · intro _
      exact ⟨h.lo, heap_alloc_new w _⟩
    · intro q
      have h241 := q.resolve_left (by decide)
      have h240 := h.closed 241 _ c241 h241 240 (by simp [SK.needs])
      exact absurd (h.closed 240 _ c240 h240 239 (by simp [SK.needs])) hun'
    · intro q r
      exact h.h12 (q.resolve_left (by decide)) (r.resolve_left (by decide))
  | in1 e v =>
    obtain ⟨b0, l, m1, m2, m3⟩ := h.h1 (hn 0 (by simp [SK.needs]))
    have hmem : (e, v) ∈ HD.statS := by simpa using List.all_eq_true.1 in1Fact _ (List.mem_of_getElem? hk)
    have e1 := h.ev (d := 1) c0 (hn 0 (by simp [SK.needs])) rfl
    obtain ⟨w', hrun, r1, r2, r3⟩ := run_mput (key_string Tryd.underlying9) Tryd.underlying66 m1 e v
    have ec1 : a.eval (.const (encS e)) = encS e := rfl
    have ec2 : a.eval (.const (.int .u64 (v : Nat))) = .int .u64 (v : Nat) := rfl
    simp only [SK.op, execOp, e1, ec1, ec2, sval, Sem.run_bind, hrun, Result.andThen_ok, Sem.run_pure, Oper.upon]
    rw [hdst]
    have hh : ∀ b, b < w.heap.size → b ≠ B.b1 → w'.heap[b]? = w.heap[b]? := fun b hb hne => r2.block b hb (fun e => hne (Option.some.inj e))
    refine ⟨B, h.next hk hn _ _ _ (fun d hd => by cases hd) (fun _ _ _ _ => rfl) (below_grown h.below h.lo r2 b0) (by rw [r3]; exact h.lo) ?_ ?_ ?_ ?_ ?_⟩
    · intro _
      refine ⟨b0, _, r1, fun p hp => ?_, fun j e' v' hj hl => ?_⟩
      · rcases of_mem_mput hp with rfl | hp
        · exact hmem
        · exact m2 p hp
      · rcases hset j hl with rfl | hl
        · rw [hk] at hj
          injection hj with hj
          injection hj with ha hb
          subst ha; subst hb
          exact mem_mput
        · have hp := m3 j e' v' hj hl
          refine mem_mput_old hp fun heq => ?_
          have := of_decide_eq_true (List.all_eq_true.1 (List.all_eq_true.1 uniqS _ (m2 _ hp)) _ hmem)
          exact this heq
    · intro q
      have h54 := q.resolve_left (ne 54 _ c54 (by simp))
      obtain ⟨a1, l2, a2, a3, a4⟩ := h.h2 h54
      exact ⟨a1, l2, a2.of_heap (hh _ a2.lt (Ne.symm (h.h12 (hn 0 (by simp [SK.needs])) h54))), a3, fun j e v t hj hl => a4 j e v t hj ((hset j hl).resolve_left (ne j _ hj (by simp)))⟩
    · intro q
      obtain ⟨a1, a2⟩ := h.h3 (q.resolve_left (ne 239 _ c239 (by simp)))
      refine ⟨a1, (hh _ (Array.getElem?_eq_some_iff.1 a2).1 (fun e => ?_)).trans a2⟩
      obtain ⟨-, es, c, hb, -⟩ := m1
      rw [e, hb] at a2; cases a2
    · intro q
      obtain ⟨a1, a2⟩ := h.h4 (q.resolve_left (ne 241 _ c241 (by simp)))
      refine ⟨a1, (hh _ (Array.getElem?_eq_some_iff.1 a2).1 (fun e => ?_)).trans a2⟩
      obtain ⟨-, es, c, hb, -⟩ := m1
      rw [e, hb] at a2; cases a2
    · exact fun q r => h.h12 (q.resolve_left (ne 0 _ c0 (by simp))) (r.resolve_left (ne 54 _ c54 (by simp)))
  | in2 e v t =>
    obtain ⟨b0, l, m1, m2, m3⟩ := h.h2 (hn 54 (by simp [SK.needs]))
    have hmem : (e, v) ∈ HD.statP := by simpa using List.all_eq_true.1 in2Fact2 _ (List.mem_of_getElem? hk)
    have e3 := h.ev (d := 3) c54 (hn 54 (by simp [SK.needs])) rfl
    have hprev : sCls[i - 1]? = some (.bp e t) := by
      have := List.all_eq_true.1 in2Fact (.in2 e v t, i) (by rw [List.mem_zipIdx_iff_getElem?]; exact hk)
      dsimp only at this
      split at this
      · rename_i e' t' h1
        obtain ⟨rfl, rfl⟩ := of_decide_eq_true this
        exact h1
      · cases this
    have et := h.ev (d := t) hprev (hn (i - 1) (by simp [SK.needs])) rfl
    obtain ⟨w', hrun, r1, r2, r3⟩ := run_mput key_pair Tryd.underlying67 m1 e v
    have ec2 : a.eval (.const (.int .u64 (v : Nat))) = .int .u64 (v : Nat) := rfl
    simp only [SK.op, execOp, e3, et, ec2, sval, Sem.run_bind, hrun, Result.andThen_ok, Sem.run_pure, Oper.upon]
    rw [hdst]
    have hh : ∀ b, b < w.heap.size → b ≠ B.b2 → w'.heap[b]? = w.heap[b]? := fun b hb hne => r2.block b hb (fun e => hne (Option.some.inj e))
    refine ⟨B, h.next hk hn _ _ _ (fun d hd => by cases hd) (fun _ _ _ _ => rfl) (below_grown h.below h.lo r2 b0) (by rw [r3]; exact h.lo) ?_ ?_ ?_ ?_ ?_⟩
    · intro q
      have h0 := q.resolve_left (ne 0 _ c0 (by simp))
      obtain ⟨a1, l2, a2, a3, a4⟩ := h.h1 h0
      exact ⟨a1, l2, a2.of_heap (hh _ a2.lt (h.h12 h0 (hn 54 (by simp [SK.needs])))), a3, fun j e v hj hl => a4 j e v hj ((hset j hl).resolve_left (ne j _ hj (by simp)))⟩
    · intro _
      refine ⟨b0, _, r1, fun p hp => ?_, fun j e' v' t' hj hl => ?_⟩
      · rcases of_mem_mput hp with rfl | hp
        · exact hmem
        · exact m2 p hp
      · rcases hset j hl with rfl | hl
        · rw [hk] at hj
          injection hj with hj
          injection hj with ha hb
          subst ha; subst hb
          exact mem_mput
        · have hp := m3 j e' v' t' hj hl
          refine mem_mput_old hp fun heq => ?_
          have := of_decide_eq_true (List.all_eq_true.1 (List.all_eq_true.1 uniqP _ (m2 _ hp)) _ hmem)
          exact this heq
    · intro q
      obtain ⟨a1, a2⟩ := h.h3 (q.resolve_left (ne 239 _ c239 (by simp)))
      refine ⟨a1, (hh _ (Array.getElem?_eq_some_iff.1 a2).1 (fun e => ?_)).trans a2⟩
      obtain ⟨-, es, c, hb, -⟩ := m1
      rw [e, hb] at a2; cases a2
    · intro q
      obtain ⟨a1, a2⟩ := h.h4 (q.resolve_left (ne 241 _ c241 (by simp)))
      refine ⟨a1, (hh _ (Array.getElem?_eq_some_iff.1 a2).1 (fun e => ?_)).trans a2⟩
      obtain ⟨-, es, c, hb, -⟩ := m1
      rw [e, hb] at a2; cases a2
    · exact fun q r => h.h12 (q.resolve_left (ne 0 _ c0 (by simp))) (r.resolve_left (ne 54 _ c54 (by simp)))

/-- The static table in memory, in blocks that are not older than n0. -/
structure StatMem (n0 : Nat) (w : World) (B : Bl) : Prop where
  x : n0 ≤ B.x ∧ w.heap[B.x]? = some (xObj B)
  g : n0 ≤ B.g ∧ w.heap[B.g]? = some gObj
  m1 : n0 ≤ B.b1 ∧ ∃ l, MapMem encS w B.b1 l ∧ ∀ p, p ∈ l ↔ p ∈ HD.statS
  m2 : n0 ≤ B.b2 ∧ ∃ l, MapMem encP w B.b2 l ∧ ∀ p, p ∈ l ↔ p ∈ HD.statP

set_option maxRecDepth 100000 in
theorem si_done {n0 : Nat} {w0 : World} {L : Array Bool} {a : Act} {w : World} (hI : ∃ B, SI n0 w0 B L a w) (hr : Region.ready .any sOps L = []) :
    ∃ B, StatMem n0 w B ∧ Below n0 w0 w ∧ a.defers = [] ∧ a.tmps[0]? = some (.pointer (some ⟨B.x, 0, none⟩)) := by
  obtain ⟨B, h⟩ := hI
  have hall : ∀ i, i < 243 → lis L i := fun i hi => all_listed (ops := sOps) (md := .any) (by rw [h.lsize, sLen]) (fun i o ho e he => by
    have hi : i < 243 := by rw [← sLen]; exact (Array.getElem?_eq_some_iff.1 ho).1
    have := List.all_eq_true.1 acycFact i (List.mem_range.2 hi)
    rw [ho] at this
    simpa using Array.all_eq_true'.1 this e he) hr i (by rw [sLen]; exact hi)
  refine ⟨B, ⟨h.h4 (hall 241 (by decide)), h.h3 (hall 239 (by decide)), ?_, ?_⟩, h.below, h.defers, h.slots 242 _ 0 c242 (hall 242 (by decide)) rfl⟩
  · obtain ⟨a1, l, a2, a3, a4⟩ := h.h1 (hall 0 (by decide))
    refine ⟨a1, l, a2, fun p => ⟨a3 p, fun hp => ?_⟩⟩
    have hm : SK.in1 p.1 p.2 ∈ sCls := by
      unfold sCls
      simp only [List.cons_append, List.mem_cons, List.mem_append, List.mem_map]
      exact Or.inr (Or.inl (Or.inl (Or.inl (Or.inl (Or.inl ⟨p, hp, rfl⟩)))))
    obtain ⟨j, hj, e⟩ := List.getElem_of_mem hm
    exact a4 j p.1 p.2 (by rw [List.getElem?_eq_getElem hj, e]) (hall j (by rw [← cLen]; exact hj))
  · obtain ⟨a1, l, a2, a3, a4⟩ := h.h2 (hall 54 (by decide))
    refine ⟨a1, l, a2, fun p => ⟨a3 p, fun hp => ?_⟩⟩
    obtain ⟨q, hq, rfl⟩ := List.mem_map.1 (show p ∈ HD.static.zipIdx.map _ from hp)
    have hm : SK.in2 q.1 (q.2 + 1) (4 + q.2) ∈ sCls := by
      unfold sCls
      simp only [List.cons_append, List.mem_cons, List.mem_append, List.mem_flatMap]
      exact Or.inr (Or.inl (Or.inl (Or.inl (Or.inr ⟨q, hq, by simp⟩))))
    obtain ⟨j, hj, e⟩ := List.getElem_of_mem hm
    exact a4 j q.1 (q.2 + 1) (4 + q.2) (by rw [List.getElem?_eq_getElem hj, e]) (hall j (by rw [← cLen]; exact hj))
end Go.Proofs.YtmlnmllnlekcgaaDoor
/-
  The contract of staticTable.
-/
namespace Go.Proofs.YtmlnmllnlekcgaaDoor
open Go.ChangeShapes Go.WideShapes Go.ChangeAt Go.RowKit

def sReg0 : Array Oper := #[{ dst := some 0, op := .assign (.const (.pointer none)), type := 95, pos := "static_table.go:6", after := #[], guard := none }]
theorem bodyEq : Tryd.f69.body = some (.seq (.region 0 sReg0 false) (.seq (.region 1 sOps true) .ret)) := by kernel_rfl
theorem resEq : Tryd.f69.results = #[.tmp 0] := by kernel_rfl
theorem si_start (n0 : Nat) (w0 w : World) (tm : Array Value) (hs : tm.size = 130) (hb : Below n0 w0 w) (hl : n0 ≤ w.heap.size) : ∃ B, SI n0 w0 B (Array.replicate 243 false) ⟨tm, []⟩ w := by
  have hno : ∀ i, ¬ lis (Array.replicate 243 false) i := fun i h => by
    unfold lis at h
    rw [Array.getD_eq_getD_getElem?, Array.getElem?_replicate] at h
    split at h <;> simp at h
  exact ⟨⟨0, 0, 0, 0⟩, rfl, hs, by simp, hb, hl, fun j _ _ h => absurd h (hno j), fun j _ _ _ h => absurd h (hno j), fun h => absurd h (hno 0), fun h => absurd h (hno 54), fun h => absurd h (hno 239), fun h => absurd h (hno 241), fun h => absurd h (hno 0)⟩

set_option maxRecDepth 100000 in
theorem static_any (w : World) : Calls Tryd.prog 69 #[] w fun e w' => ∃ B : Bl, e = .returned (.pointer (some ⟨B.x, 0, none⟩)) ∧ StatMem w.heap.size w' B ∧ Below w.heap.size w w' := by
  refine calls_of_wp Tryd.func69 bodyEq ?_
  refine wp_seq (wp_region ?_)
  rw [show List.range sReg0.size = [0] from rfl, wpOps_cons]
  refine wpOp_plain (show sReg0[0]? = some _ from rfl) rfl ?_
  unfold Oper.wp
  simp only [execOp, Oper.upon, wpOps, Exit.then, Act.put]
  refine wp_seq (wp_region_any (by kernel_rfl) (wpAny_inv (fun L a w' => ∃ B, SI w.heap.size w B L a w') (fun L a w' i hI hi => si_step L a w' i hI hi) (fun L a w' hI hr => ?_) _ _ _ _ ?_ ?_))
  · obtain ⟨B, hS, hb, hd, h0⟩ := si_done hI hr
    simp only [Exit.then]
    refine wp_ret ⟨hd, .pointer (some ⟨B.x, 0, none⟩), ?_, B, rfl, hS, hb⟩
    simp only [results, resEq]
    simp [Array.getD_eq_getD_getElem?, h0]
  · rw [sLen]
    refine si_start _ _ _ _ ?_ ⟨rfl, rfl, rfl, Nat.le_refl _, fun _ _ => rfl⟩ (Nat.le_refl _)
    rw [Array.size_setIfInBounds]
    simp only [show Tryd.f69.ntmps = 130 by kernel_rfl]
    rfl
  · exact Nat.le_trans (List.length_filter_le _ _) (Nat.le_of_eq List.length_range)
end Go.Proofs.YtmlnmllnlekcgaaDoor
/-
  The entry of an index: maxTableIndex, at.
-/
namespace Go.Proofs.YtmlnmllnlekcgaaDoor
open Go.ChangeShapes Go.WideShapes Go.ChangeAt Go.RowKit

theorem Calls.wk {P : Program} {f : FuncId} {args : Array Value} {w : World} {Q R : Ending → World → Prop} (h : Calls P f args w Q) (hq : ∀ e w', Q e w' → R e w') : Calls P f args w R := h.mono hq

/-- The static table's struct, read. -/
theorem StatMem.c1 {n0 : Nat} {w : World} {B : Bl} (h : StatMem n0 w B) : w.cell? ⟨B.x, 1, none⟩ = some (.slice (some ⟨B.g, 0, none⟩) 61 61) := (Lib.cell_of_heap h.x.2 1).trans rfl
theorem StatMem.ent {n0 : Nat} {w : World} {B : Bl} (h : StatMem n0 w B) (k : Nat) (hk : k < 61) : ∃ e, HD.static[k]? = some e ∧ w.cell? ⟨B.g, k * 3, none⟩ = some (.string ⟨e.1.toArray⟩) ∧ w.cell? ⟨B.g, k * 3 + 1, none⟩ = some (.string ⟨e.2.toArray⟩) ∧ w.cell? ⟨B.g, k * 3 + 2, none⟩ = some (.bool false) := by
  have hk' : k < HD.static.length := by rw [HD.static_len]; exact hk
  obtain ⟨h0, h1, h2⟩ := entCells_at HD.static k hk'
  have key : ∀ j v, (entCells HD.static)[j]? = some v → w.cell? ⟨B.g, j, none⟩ = some v := fun j v hv => by
    rw [Lib.cell_of_heap h.g.2, List.getElem?_toArray]; exact hv
  exact ⟨_, List.getElem?_eq_getElem hk', key _ _ h0, key _ _ h1, key _ _ h2⟩

theorem maxIdx_any (d k c : Nat) (a : Option Addr) (w : World) (h : w.cell? ⟨d, 1, none⟩ = some (.slice a k c)) (hk : k ≤ 2 ^ 40) :
    Calls Tryd.prog 70 #[.pointer (some ⟨d, 0, none⟩)] w fun e w' => e = .returned (.int .i64 ((k + 61 : Nat) : Int)) ∧ Below w.heap.size w w' := by
  go_enter Tryd.func70, Tryd.ntmps70
  go_wp2_with fail
  refine (len_any d k c a _ (by exact h)).mono ?_
  rintro e w1 ⟨rfl, rfl⟩
  go_wp2_with fail
  refine (static_any _).mono ?_
  rintro e w2 ⟨Bs, rfl, hS, hb⟩
  have Hb := Lib.hid hb
  have hc := hS.c1
  clear hS hb
  go_wp2_with fail
  refine (len_any Bs.x 61 61 _ _ (by exact hc)).mono ?_
  rintro e w3 ⟨rfl, rfl⟩
  go_wp2_with fail
  go_ret
  exact ⟨ret_int (by omega), Hb.out⟩

def atVal : Option (HD.Bs × HD.Bs) → Value
  | some e => .tuple #[.agg #[.string ⟨e.1.toArray⟩, .string ⟨e.2.toArray⟩, .bool false], .bool true]
  | none => .tuple #[.agg #[.string ByteArray.empty, .string ByteArray.empty, .bool false], .bool false]

def hf0 : Array Value := #[.string ByteArray.empty, .string ByteArray.empty, .bool false]
theorem hf_row (w : World) : Row (w.alloc (.cells hf0 54)) w.heap.size 3 (fun j => hf0.getD j undef) :=
  Row.new w 54 (by decide) (n := 3) rfl (fun i hi => by rw [Array.getD_eq_getD_getElem?, Array.getElem?_eq_getElem (show i < hf0.size from hi)]; rfl)
set_option maxHeartbeats 1000000 in
set_option maxRecDepth 100000 in
theorem at_any (B : Nat) (w : World) (d n : Nat) (f : Nat → Value) (ents : List (HD.Bs × HD.Bs)) (cnt : Nat) (ev : Value) (m1 m2 : Nat) (l1 : List (HD.Bs × Nat)) (l2 : List ((HD.Bs × HD.Bs) × Nat)) (i : Nat)
    (hT : TabMem B w d n f ents cnt ev m1 m2 l1 l2) (hl : ents.length ≤ 2 ^ 40) (hi : i < 255 + 2 ^ 63) :
    Calls Tryd.prog 60 #[.pointer (some ⟨d, 0, none⟩), .int .u64 (i : Nat)] w fun e w' => e = .returned (atVal (HD.entAt ents i)) ∧ Below w.heap.size w w' := by
  rcases Nat.eq_zero_or_pos i with rfl | hpos
  · have he : HD.entAt ents 0 = none := by simp [HD.entAt]
    rw [he]
    go_enter Tryd.func60, Tryd.ntmps60
    go_wp2_with fail
    (try simp only [Exit.inBlock, Exit.then])
    refine bodyPost_ret (v := atVal none) ?_ rfl ?_
    · simp only [results, Tryd.results60]
      go_simp
      rfl
    exact ⟨rfl, (Below.refl _ _).alloc (Nat.le_refl _) _⟩
  have d0 : decide ((i : Int) = 0) = false := by simp; omega
  rcases Nat.lt_or_ge i 62 with h61 | h61
  · obtain ⟨k, rfl⟩ : ∃ k, i = k + 1 := ⟨i - 1, by omega⟩
    have d1 : decide ((k + 1 : Nat) ≤ 61) = true := decide_eq_true (by omega)
    obtain ⟨es, hes⟩ : ∃ es, HD.static[k]? = some es := ⟨_, List.getElem?_eq_getElem (by rw [HD.static_len]; omega)⟩
    have hen : HD.entAt ents (k + 1) = some es := by unfold HD.entAt; rw [if_neg (by omega), if_pos (by omega)]; simpa using hes
    rw [hen]
    have Hes := Lib.hid hes
    clear hes hen
    go_enter Tryd.func60, Tryd.ntmps60
    go_wp2_with fail
    refine (static_any _).mono ?_
    rintro e w2 ⟨Bs, rfl, hS, hb⟩
    have Hb := Lib.hid hb
    have hc := hS.c1
    clear hS hb
    go_wp2_with fail
    refine (len_any Bs.x 61 61 _ _ (by exact hc)).mono ?_
    rintro e w3 ⟨rfl, rfl⟩
    have hlo : w.heap.size + 1 ≤ w2.heap.size := by have := Hb.out.size; simpa using this
    have Hc0 := Lib.hid (Hb.out.block w.heap.size (by simp))
    go_wp2_with fail
    refine (static_any _).mono ?_
    rintro e w4 ⟨B2, rfl, hS2, hb2⟩
    have hc2 := hS2.c1
    obtain ⟨es', hes, q0, q1, q2⟩ := hS2.ent k (by omega)
    have hr4 : Row w4 w.heap.size 3 (fun j => hf0.getD j undef) := ((hf_row w).of_heap Hc0.out).of_heap (hb2.block w.heap.size (by omega))
    have t0 := hr4.cell' (i := 0) (v := .string ByteArray.empty) (by decide) rfl
    have t1 := hr4.cell' (i := 1) (v := .string ByteArray.empty) (by decide) rfl
    have t2 := hr4.cell' (i := 2) (v := .bool false) (by decide) rfl
    have tf := fun j => hr4.unfrozen j none
    have Hr4 := Lib.hid hr4
    have Hb4 : Hid (Below w.heap.size w w4) := Lib.hid ((((Below.refl _ w).alloc (Nat.le_refl _) _).trans (Hb.out.mono (by simp))).trans (hb2.mono (by omega)))
    have hne : B2.g ≠ w.heap.size := by have := hS2.g.1; omega
    obtain rfl : es' = es := by rw [Hes.out] at hes; exact (Option.some.inj hes).symm
    clear hS2 hb2 hr4 hes
    go_wp2_with fail
    (try simp only [Exit.inBlock, Exit.then])
    refine bodyPost_ret (v := atVal (some es')) ?_ rfl ?_
    · simp only [results, Tryd.results60]
      go_simp
      rfl
    exact ⟨rfl, ((Hb4.out.setCell (by exact Nat.le_refl _) _).setCell (by exact Nat.le_refl _) _).setCell (by exact Nat.le_refl _) _⟩
  · have d1 : decide (i ≤ 61) = false := decide_eq_false (by omega)
    obtain ⟨ea, ec, hev⟩ := own_form hT.own
    have HT := Lib.hid hT
    have Hev := Lib.hid hev
    have hdl := hT.row.lt
    clear hT hev
    rcases Nat.lt_or_ge (ents.length + 61) i with hgt | hle
    · have hen : HD.entAt ents i = none := by unfold HD.entAt; rw [if_neg (by omega), if_neg (by omega), if_neg (by omega)]
      have d2 : decide (((ents.length + 61 : Nat) : Int) < (i : Int)) = true := decide_eq_true (by omega)
      rw [hen]
      go_enter Tryd.func60, Tryd.ntmps60
      go_wp2_with fail
      refine (static_any _).mono ?_
      rintro e w2 ⟨Bs, rfl, hS, hb⟩
      have Hb := Lib.hid hb
      have hc := hS.c1
      clear hS hb
      go_wp2_with fail
      refine (len_any Bs.x 61 61 _ _ (by exact hc)).mono ?_
      rintro e w3 ⟨rfl, rfl⟩
      have hlo : w.heap.size + 1 ≤ w2.heap.size := by have := Hb.out.size; simpa using this
      have Hc0 := Lib.hid (Hb.out.block w.heap.size (by simp))
      have hb2 := ((Below.refl _ w).alloc (Nat.le_refl _) _).trans (Hb.out.mono (by simp))
      have c1 := (HT.out.below hb2).row.cell' (i := 1) (by have := HT.out.big; omega) (HT.out.c1.trans Hev.out)
      have Hb2 := Lib.hid hb2
      clear hb2 hc
      go_wp2_with fail
      refine (maxIdx_any d ents.length ec ea _ (by exact c1) hl).mono ?_
      rintro e w4 ⟨rfl, hb4⟩
      have hr4 : Row w4 w.heap.size 3 (fun j => hf0.getD j undef) := ((hf_row w).of_heap Hc0.out).of_heap (hb4.block w.heap.size (by omega))
      have t0 := hr4.cell' (i := 0) (v := .string ByteArray.empty) (by decide) rfl
      have t1 := hr4.cell' (i := 1) (v := .string ByteArray.empty) (by decide) rfl
      have t2 := hr4.cell' (i := 2) (v := .bool false) (by decide) rfl
      have Hb4 := Lib.hid (Hb2.out.trans (hb4.mono Hb2.out.size))
      clear hb4 hr4 c1
      go_wp2_with fail
      (try simp only [Exit.inBlock, Exit.then])
      refine bodyPost_ret (v := atVal none) ?_ rfl ?_
      · simp only [results, Tryd.results60]
        go_simp
        rfl
      exact ⟨rfl, Hb4.out⟩
    · obtain ⟨k, rfl⟩ : ∃ k, i = k + 62 := ⟨i - 62, by omega⟩
      have hk : k < ents.length := by omega
      obtain ⟨q, hq⟩ : ∃ q, q = ents.length - 1 - k := ⟨_, rfl⟩
      have hql : q < ents.length := by omega
      obtain ⟨es, hes⟩ : ∃ es, es = ents[q] := ⟨_, rfl⟩
      have hen : HD.entAt ents (k + 62) = some es := by unfold HD.entAt; rw [if_neg (by omega), if_neg (by omega), if_pos (by omega), hes, ← List.getElem?_eq_getElem hql]; congr 1; omega
      have d2 : decide (((ents.length + 61 : Nat) : Int) < ((k + 62 : Nat) : Int)) = false := decide_eq_false (by omega)
      rw [hen]
      have hkw : IntKind.i64.wrap ((k : Int) + 62) = (k : Int) + 62 := by rw [IntKind.wrap_i64]; omega
      have hkw2 : IntKind.i64.wrap ((k : Int) + 62 - 61) = (k : Int) + 1 := by rw [IntKind.wrap_i64]; omega
      have hkw3 : IntKind.i64.wrap ((ents.length : Int) - ((k : Int) + 1)) = (q : Int) := by rw [IntKind.wrap_i64]; omega
      have hqI : (q : Int) < (ents.length : Int) := by omega
      clear hq
      have Hes := Lib.hid hes
      clear hes hen
      go_enter Tryd.func60, Tryd.ntmps60
      go_wp2_with fail
      refine (static_any _).mono ?_
      rintro e w2 ⟨Bs, rfl, hS, hb⟩
      have Hb := Lib.hid hb
      have hc := hS.c1
      clear hS hb
      go_wp2_with fail
      refine (len_any Bs.x 61 61 _ _ (by exact hc)).mono ?_
      rintro e w3 ⟨rfl, rfl⟩
      have hlo : w.heap.size + 1 ≤ w2.heap.size := by have := Hb.out.size; simpa using this
      have Hc0 := Lib.hid (Hb.out.block w.heap.size (by simp))
      have hb2 := ((Below.refl _ w).alloc (Nat.le_refl _) _).trans (Hb.out.mono (by simp))
      have c1 := (HT.out.below hb2).row.cell' (i := 1) (by have := HT.out.big; omega) (HT.out.c1.trans Hev.out)
      have Hb2 := Lib.hid hb2
      clear hb2 hc
      go_wp2_with fail
      refine (maxIdx_any d ents.length ec ea _ (by exact c1) hl).mono ?_
      rintro e w4 ⟨rfl, hb4⟩
      have hr4 : Row w4 w.heap.size 3 (fun j => hf0.getD j undef) := ((hf_row w).of_heap Hc0.out).of_heap (hb4.block w.heap.size (by omega))
      have hb5 := Hb2.out.trans (hb4.mono Hb2.out.size)
      have hT4 := HT.out.below hb5
      have hbig := HT.out.big
      have e0 := hT4.row.cell' (i := 0) (by omega) HT.out.c0
      have e1 := hT4.row.cell' (i := 1) (by omega) (HT.out.c1.trans Hev.out)
      have e2 := hT4.row.cell' (i := 2) (by omega) HT.out.c2
      have e3 := hT4.row.cell' (i := 3) (by omega) HT.out.c3
      have e4 := hT4.row.cell' (i := 4) (by omega) HT.out.c4
      have Hr4 := Lib.hid hr4
      have Hb4 := Lib.hid hb5
      have HT4 := Lib.hid hT4
      have hlo4 : w.heap.size + 1 ≤ w4.heap.size := Nat.le_trans hlo hb4.size
      clear hb4 hr4 c1 hb5 hT4
      go_wp2_with fail
      have hS0 : (w4.alloc (.cells #[.bool false, .slice ea ents.length ec, .int .u64 (cnt : Nat), .map (some m1), .map (some m2)] 69)).cell? ⟨w4.heap.size, 1, none⟩ = some (.slice ea ents.length ec) := (Lib.cell_of_heap (heap_alloc_new w4 _) 1).trans rfl
      have hb45 : Below w4.heap.size w4 (w4.alloc (.cells #[.bool false, .slice ea ents.length ec, .int .u64 (cnt : Nat), .map (some m1), .map (some m2)] 69)) := (Below.refl _ _).alloc (Nat.le_refl _) _
      have hs45 : (w4.alloc (.cells #[.bool false, .slice ea ents.length ec, .int .u64 (cnt : Nat), .map (some m1), .map (some m2)] 69)).heap.size = w4.heap.size + 1 := by simp
      generalize w4.alloc (.cells #[.bool false, .slice ea ents.length ec, .int .u64 (cnt : Nat), .map (some m1), .map (some m2)] 69) = W5 at hS0 hb45 hs45 ⊢
      have HS0 := Lib.hid hS0
      have Hb45 := Lib.hid hb45
      clear hS0 hb45
      refine wp_region_held_drew (S := (fun w' => w'.cell? ⟨w4.heap.size, 1, none⟩ = some (.slice ea ents.length ec))) (by kernel_rfl) ((by exact HS0.out)) (fun hHeld => ?_)
      refine takeH 0 (v := ?_) rfl rfl (by kernel_rfl) (by kernel_rfl) (by kernel_rfl) (fun _ _ _ h => h) (Or.inl ⟨by rfl, ?_⟩) (by assumption) ?_
      rotate_left
      · (intro w hSw; (try dsimp only at hSw); go_simp <;> with_reducible rfl)
      simp only [List.setIfInBounds_toArray, List.set_cons_zero, List.set_cons_succ]
      refine takeH 1 (v := ?_) rfl rfl (by kernel_rfl) (by kernel_rfl) (by kernel_rfl) (fun _ _ _ h => h) (Or.inl ⟨by rfl, ?_⟩) (by assumption) ?_
      rotate_left
      · (intro w hSw; (try dsimp only at hSw); go_simp <;> with_reducible rfl)
      simp only [List.setIfInBounds_toArray, List.set_cons_zero, List.set_cons_succ]
      refine takeH 3 (v := ?_) rfl rfl (by kernel_rfl) (by kernel_rfl) (by kernel_rfl) (fun _ _ _ h => h) (Or.inl ⟨by rfl, ?_⟩) (by assumption) ?_
      rotate_left
      · (intro w hSw; (try dsimp only at hSw); go_simp <;> with_reducible rfl)
      simp only [List.setIfInBounds_toArray, List.set_cons_zero, List.set_cons_succ]
      refine takeH 4 (v := ?_) rfl rfl (by kernel_rfl) (by kernel_rfl) (by kernel_rfl) (fun _ _ _ h => h) (Or.inl ⟨by rfl, ?_⟩) (by assumption) ?_
      rotate_left
      · (intro w hSw; (try dsimp only at hSw); go_simp <;> with_reducible rfl)
      simp only [List.setIfInBounds_toArray, List.set_cons_zero, List.set_cons_succ]
      refine wpAnyH_ready (rs := [2]) (by kernel_rfl) (by simp) ?_
      refine AllReadyH.cons rfl (fun K hK => ?_) AllReadyH.nil
      go_simp
      refine (len_any w4.heap.size ents.length ec ea _ (by exact HS0.out)).mono ?_
      rintro e w5 ⟨rfl, rfl⟩
      go_simp
      refine hK.out _ _ (by exact HS0.out) (fun hHeld => ?_)
      clear hK K
      refine wpAnyH_ready (rs := [5]) (by kernel_rfl) (by simp) ?_
      refine AllReadyH.cons rfl (fun K hK => ?_) AllReadyH.nil
      go_simp
      refine (static_any _).mono ?_
      rintro e w6 ⟨B6, rfl, hS6, hb6⟩
      go_simp
      have HS6 := Lib.hid ((hb6.cell (p := ⟨w4.heap.size, 1, none⟩) (by show w4.heap.size < W5.heap.size; omega)).trans HS0.out)
      have Hc6 := Lib.hid hS6.c1
      have hb46 : Below w4.heap.size w4 w6 := Hb45.out.trans ⟨hb6.os, hb6.tape, hb6.output, hb6.size, fun k hk => hb6.block k (by show k < W5.heap.size; omega)⟩
      have Hb6 : Hid (Below w.heap.size w w6) := Lib.hid (Hb4.out.trans (hb46.mono (by omega)))
      have hT6 := HT4.out.below hb46
      have hr6 := Hr4.out.of_heap (hb46.block w.heap.size (by omega))
      have hown6 := hT6.own
      rw [Hev.out] at hown6
      obtain ⟨g, rfl⟩ : ∃ g, ea = some ⟨g, 0, none⟩ := by
        rcases hown6.2 with ⟨e, h0⟩ | ⟨g, cap, cur, e, -⟩
        · omega
        · injection e with e1 e2 e3
          exact ⟨g, e1⟩
      obtain ⟨q0, q1, q2⟩ := entCells_at ents q hql
      have hcl : ∀ j v, (entCells ents)[j]? = some v → w6.cell? ⟨g, j, none⟩ = some v := fun j v hv => by
        have := hown6.cells (g := g) rfl j v hv
        rwa [Lib.addr_add, Nat.zero_add] at this
      have z0 := hcl _ _ q0
      have z1 := hcl _ _ q1
      have z2 := hcl _ _ q2
      rw [← Hes.out] at z0 z1
      have hgw : g ≠ w.heap.size := fun e => by
        have := (HT.out.own.lt g (by rw [Hev.out]; rfl)).2
        omega
      have t0 := hr6.cell' (i := 0) (v := .string ByteArray.empty) (by decide) rfl
      have t1 := hr6.cell' (i := 1) (v := .string ByteArray.empty) (by decide) rfl
      have t2 := hr6.cell' (i := 2) (v := .bool false) (by decide) rfl
      have tf := fun j => hr6.unfrozen j none
      have Hr6 := Lib.hid hr6
      clear hcl q0 q1 q2 hb6 hb46 hS6 hT6 hown6 hr6
      refine hK.out _ _ (by exact HS6.out) (fun hHeld => ?_)
      clear hK K
      refine wpAnyH_ready (rs := [6]) (by kernel_rfl) (by simp) ?_
      refine AllReadyH.cons rfl (fun K hK => ?_) AllReadyH.nil
      go_simp
      refine (len_any B6.x 61 61 _ _ (by exact Hc6.out)).mono ?_
      rintro e w7 ⟨rfl, rfl⟩
      go_simp
      refine hK.out _ _ (by exact HS6.out) (fun hHeld => ?_)
      clear hK K
      refine takeH 7 (v := ?_) rfl rfl (by kernel_rfl) (by kernel_rfl) (by kernel_rfl) (fun _ _ _ h => h) (Or.inl ⟨by rfl, ?_⟩) (by assumption) ?_
      rotate_left
      · (intro w hSw; (try dsimp only at hSw); go_simp <;> with_reducible rfl)
      simp only [List.setIfInBounds_toArray, List.set_cons_zero, List.set_cons_succ]
      refine takeH 8 (v := ?_) rfl rfl (by kernel_rfl) (by kernel_rfl) (by kernel_rfl) (fun _ _ _ h => h) (Or.inl ⟨by rfl, ?_⟩) (by assumption) ?_
      rotate_left
      · (intro w hSw; (try dsimp only at hSw); go_simp <;> with_reducible rfl)
      simp only [List.setIfInBounds_toArray, List.set_cons_zero, List.set_cons_succ]
      refine wpAnyH_ready (rs := [9]) (by kernel_rfl) (by simp) ?_
      refine AllReadyH.cons rfl (fun K hK => ?_) AllReadyH.nil
      go_simp
      refine hK.out _ _ (by exact HS6.out) (fun hHeld => ?_)
      clear hK K
      refine wpAnyH_ready (rs := [10]) (by kernel_rfl) (by simp) ?_
      refine AllReadyH.cons rfl (fun K hK => ?_) AllReadyH.nil
      go_simp
      refine hK.out _ _ (by exact HS6.out) (fun hHeld => ?_)
      clear hK K
      refine wpAnyH_ready (rs := [11]) (by kernel_rfl) (by simp) ?_
      refine AllReadyH.cons rfl (fun K hK => ?_) AllReadyH.nil
      go_simp
      have hb46 : w4.heap.size ≠ w.heap.size := by omega
      refine hK.out _ _ (by exact (World.cell?_of_block (a := ⟨w4.heap.size, 1, none⟩) ((other_set (Ne.symm hb46)).trans ((other_set (Ne.symm hb46)).trans (other_set (Ne.symm hb46))))).trans HS6.out) (fun hHeld => ?_)
      clear hK K
      refine takeH 12 (v := ?_) rfl rfl (by kernel_rfl) (by kernel_rfl) (by kernel_rfl) (fun _ _ _ h => h) (Or.inl ⟨by rfl, ?_⟩) (by assumption) ?_
      rotate_left
      · (intro w hSw; (try dsimp only at hSw); go_simp <;> with_reducible rfl)
      simp only [List.setIfInBounds_toArray, List.set_cons_zero, List.set_cons_succ]
      refine wpAnyH_done (by kernel_rfl) ?_ _
      go_wp2_with fail
      (try simp only [Exit.inBlock, Exit.then])
      refine bodyPost_ret (v := atVal (some es)) ?_ rfl ?_
      · simp only [results, Tryd.results60]
        go_simp
        rfl
      exact ⟨rfl, ((Hb6.out.setCell (by exact Nat.le_refl _) _).setCell (by exact Nat.le_refl _) _).setCell (by exact Nat.le_refl _) _⟩
end Go.Proofs.YtmlnmllnlekcgaaDoor
/-
  parseFieldIndexed.
-/
namespace Go.Proofs.YtmlnmllnlekcgaaDoor
open Go.ChangeShapes Go.WideShapes Go.ChangeAt Go.RowKit

/-- The rest is kept, a field may have been told. -/
theorem REnds.tell {B : Nat} {w w2 w3 : World} {d g : Nat} {M : Emitter} {s : HD.St} {l : List HD.Fld} {p p2 : DP} {aI aN : Addr} {ents : List (HD.Bs × HD.Bs)} {o2 cap2 : Nat} {rest : HD.Bs} {f : HD.Fld}
    (h2 : Live B w2 d M { s with ents := ents } l p2) (hown : ∀ k, p2.own d k → p.own d k ∨ w.heap.size ≤ k) (hf : ∀ i, 9 ≤ i → i ≠ 11 → p2.f i = p.f i) (h11 : p2.f 11 = .slice (some ⟨g, o2, none⟩) rest.length cap2) (hb : Buf w2 g o2 cap2 rest) (hu : Upd (p.own d) w w2)
    (hn : p2.cnt + ents.length ≤ p.cnt + s.ents.length + 1) (hg : IsU8 w2 g) {E' : Nat → Prop} (h3 : Live B w3 d M { s with ents := ents } (l ++ (HD.tell s f).toList) { p2 with E := E' }) (hE : ∀ k, E' k → p2.E k ∨ w2.heap.size ≤ k) (hu3 : Upd p2.E w2 w3) :
    REnds B w d g M s l p aI aN (.ok ents s.max (HD.tell s f) rest) (.returned .nilIface) w3 := by
  have hsz : w.heap.size ≤ w2.heap.size := hu.size
  refine ⟨rfl, { p2 with E := E' }, o2, cap2, h3, fun k hk => ?_, hf, h11, ?_, ?_, hn⟩
  · rcases hk with hk | hk
    · exact hown k (Or.inl hk)
    · rcases hE k hk with h | h
      · exact hown k (Or.inr h)
      · exact Or.inr (Nat.le_trans hsz h)
  · refine hb.kept fun _ => hu3.block g hg.lt fun h => h2.kind hg (Or.inr h)
  · refine hu.trans hu3 (fun i hi h => ?_)
    rcases hown i (Or.inr h) with h' | h'
    · exact h'
    · omega

set_option maxRecDepth 100000 in
theorem errV_index {n : Nat} {w' : World} {aI : Addr} (i : Nat) : ErrV n w' aI (.index i) (.iface 100 (.agg #[.iface 102 (.int .i64 (wrap64 (i : Nat)))])) := by
  have hw : IntKind.i64.wrap ((i : Nat) : Int) = wrap64 (i : Int) := by simp only [IntKind.wrap_i64, wrap64]
  simp only [ErrV, hw]
set_option maxHeartbeats 2000000 in
set_option maxRecDepth 100000 in
theorem pIdx_any (B : Nat) (w : World) (d g o cap : Nat) (M : Emitter) (hM : EmOk B M) (s : HD.St) (l : List HD.Fld) (p : DP) (aI aN aL : Addr) (v : HD.Bs)
    (hL : Live B w d M s l p) (hE : EnvO B w aI aN aL) (hb : Buf w g o cap v) (hg : IsU8 w g) (h11 : p.f 11 = .slice (some ⟨g, o, none⟩) v.length cap) (hl : l.length ≤ 2 ^ 40) :
    Calls Tryd.prog 55 #[.pointer (some ⟨d, 0, none⟩)] w (REnds B w d g M s l p aI aN (HD.pIdx s v)) := by
  have c11 := hL.row.cell' (i := 11) (by decide) h11
  have HL := Lib.hid hL
  have HE := Lib.hid hE
  have HB := Lib.hid hb
  have Hg := Lib.hid hg
  have HM := Lib.hid hM
  have Hl := Lib.hid hl
  have hdl := hL.lt
  have HP : Hid (HD.pIdx s v = match HD.rvi 7 v with
    | .more => .more
    | .over => .bad .coding
    | .ok n rest => match HD.entAt s.ents n with
      | none => .bad (.index n)
      | some e => .ok s.ents s.max (HD.tell s ⟨e.1, e.2, false⟩) rest) := Lib.hid rfl
  clear hL hE hb hg h11 hM hl
  go_enter Tryd.func55, Tryd.ntmps55
  go_wp2_with fail
  refine (varInt_any 7 (by decide) _ g o cap v _ HB.out HE.out.eN).mono ?_
  rintro e w1 ⟨hv, hb1⟩
  have Hb1 := Lib.hid hb1
  have HL1 := Lib.hid (HL.out.below hb1)
  clear hb1 c11
  cases hr : HD.rvi 7 v with
  | more =>
    rw [hr] at hv HP
    obtain ⟨s0, rfl⟩ := hv
    clear hr
    go_wp2_with fail
    go_ret
    rw [HP.out]
    exact ⟨rfl, Hb1.out⟩
  | over =>
    rw [hr] at hv HP
    obtain ⟨s0, a, rfl, ha⟩ := hv
    clear hr
    unfold codingErr
    go_wp2_with fail
    go_ret
    rw [HP.out]
    exact ⟨⟨_, rfl, a, rfl, ha⟩, Hb1.out⟩
  | ok n rest =>
    have hlt := HD.rvi_lt (by decide) hr
    rw [hr] at hv HP
    obtain ⟨o1, cap1, rfl, hbr⟩ := hv
    have HBr := Lib.hid hbr
    have HP2 : Hid (HD.pIdx s v = match HD.entAt s.ents n with
      | none => .bad (.index n)
      | some e => .ok s.ents s.max (HD.tell s ⟨e.1, e.2, false⟩) rest) := HP.out
    clear hr hbr HP
    go_wp2_with fail
    have hents : s.ents.length ≤ 2 ^ 40 := by
      have h1 := tsize_ge s.ents
      have h2 := HL.out.ok.size
      have h3 := HL.out.ok.max
      omega
    refine (at_any B _ d 16 p.f s.ents p.cnt p.ev p.m1 p.m2 p.l1 p.l2 n HL1.out.mem.tab hents hlt).mono ?_
    rintro e w2 ⟨rfl, hb2⟩
    cases hent : HD.entAt s.ents n with
    | none =>
      rw [hent] at HP2
      have Hb2 := Lib.hid (Hb1.out.trans (hb2.mono Hb1.out.size))
      clear hb2 hent
      unfold atVal
      go_wp2_with fail
      go_ret
      rw [HP2.out]
      exact ⟨⟨_, rfl, errV_index n⟩, Hb2.out.alloc Hb2.out.size _⟩
    | some es =>
      rw [hent] at HP2
      have HL2 := Lib.hid (HL1.out.below hb2)
      have hr2 := HL2.out.row
      have e11 := hr2.cell (i := 11) (by decide)
      have fz := fun i => hr2.unfrozen i none
      have hd2 : d < w2.heap.size := hr2.lt
      have hne : d ≠ w2.heap.size := Nat.ne_of_lt hd2
      have Hb2 := Lib.hid (Hb1.out.trans (hb2.mono Hb1.out.size))
      have Hb12 := Lib.hid hb2
      clear hb2 hent hr2
      unfold atVal
      go_wp2_with fail
      have hl3 : Live B (w2.setCell ⟨d, 11, none⟩ (.slice (some ⟨g, o1, none⟩) rest.length cap1)) d M s l { p with f := putF p.f 11 (.slice (some ⟨g, o1, none⟩) rest.length cap1) } :=
        HL2.out.put (b := s.first) (HL2.out.row.set 11 _) (fun i hi => by simp only [putF]; rw [if_neg (by omega)]) (by simp [putF, HL2.out.mem.first]) (fun k hk _ => other_set (Ne.symm hk))
      have hs3 : (w2.setCell ⟨d, 11, none⟩ (.slice (some ⟨g, o1, none⟩) rest.length cap1)).heap.size = w2.heap.size := World.size_setCell _ _ _
      have hu3 : Upd (p.own d) w (w2.setCell ⟨d, 11, none⟩ (.slice (some ⟨g, o1, none⟩) rest.length cap1)) := (Upd.of_below Hb2.out).setCell (a := ⟨d, 11, none⟩) (Or.inl (Or.inl (Or.inl rfl))) _
      have hg2 : IsU8 w2 g := Hg.out.of_heap (Hb2.out.block g Hg.out.lt)
      have hgd : d ≠ g := fun e => HL2.out.kind hg2 (e ▸ Or.inl (Or.inl rfl))
      have hg3 : IsU8 (w2.setCell ⟨d, 11, none⟩ (.slice (some ⟨g, o1, none⟩) rest.length cap1)) g := hg2.of_heap (other_set hgd)
      have hb3 : Buf (w2.setCell ⟨d, 11, none⟩ (.slice (some ⟨g, o1, none⟩) rest.length cap1)) g o1 cap1 rest := by
        refine HBr.out.kept fun _ => (other_set hgd).trans ?_
        exact (Hb12.out.block g (Nat.lt_of_lt_of_le Hg.out.lt Hb1.out.size))
      generalize w2.setCell ⟨d, 11, none⟩ (.slice (some ⟨g, o1, none⟩) rest.length cap1) = w3 at hl3 hs3 hu3 hg3 hb3 ⊢
      have Hl3 := Lib.hid hl3
      have Hu3 := Lib.hid hu3
      have Hg3 := Lib.hid hg3
      have Hb3 := Lib.hid hb3
      clear hl3 hu3 hg3 hb3
      have hb4 : Below w3.heap.size w3 (w3.alloc (.cells #[.string ⟨es.1.toArray⟩, .string ⟨es.2.toArray⟩, .bool false] 54)) := (Below.refl _ _).alloc (Nat.le_refl _) _
      refine (callEmit_any B _ d M HM.out s l _ ⟨es.1, es.2, false⟩ (Hl3.out.below hb4) Hl.out).mono ?_
      rintro e w5 ⟨rfl, E', hl5, hE5, hu5⟩
      have Hl5 := Lib.hid hl5
      have HE5 := Lib.hid hE5
      have Hu5 := Lib.hid hu5
      clear hl5 hE5 hu5
      go_wp2_with fail
      go_ret
      rw [HP2.out]
      exact REnds.tell (Hl3.out.below hb4) (fun k h => Or.inl h) (fun i hi h => by simp only [putF]; rw [if_neg h]) (by simp [putF]) (Hb3.out.below hb4) (Hu3.out.step (Upd.of_below hb4)) (by simp) (Hg3.out.of_heap (hb4.block g Hg3.out.lt)) Hl5.out HE5.out Hu5.out
end Go.Proofs.YtmlnmllnlekcgaaDoor
