/-
  Texts of this seat, one behind the other: OFlds, Short, DTab, LaidTabs, ErrTab, EnvOpen. What each one shows stands at its head. No condition.
-/
import Derived.Test.YtmlnmllnlekcgaaDoorMb10
import Derived.Deep.Slices
import Derived.Stood8
import Derived.OpenShut
import Derived.Test.YtmlnmllnlekcgaaDoorRows
import Derived.WalkKit
import Derived.WalkLawsBesides
import Derived.ProofKit
import Derived.Outline
import Derived.Lib.Hide
import Derived.Test.YtmlnmllnlekcgaaDoorCards
import Derived.Test.YtmlnmllnlekcgaaDoorTie
import Derived.LaidMore
import Derived.LaidHandle
import Derived.Deep.DeepHandedRow
import Derived.Deep.DeepWitnessRowRef
import Derived.Lib.LaidTab
import Derived.Stop.LaidErr
import Derived.Deep.DeepLaidRun
/-
  What a slice of fields that came in gives: its fields, in memory; the contract of zzFits3.
-/
namespace Go.Proofs.YtmlnmllnlekcgaaDoor
open Go.ChangeShapes Go.WideShapes Go.ChangeAt Go.RowKit

theorem under_fldE : Tryd.prog.underlying 30 = some (.struct #[⟨ "Name", 9, 0, false, "", "", 0⟩, ⟨ "Value", 9, 1, false, "", "", 16⟩, ⟨ "Sensitive", 4, 2, false, "", "", 32⟩]) := by kernel_rfl
theorem cells_fld : Tryd.prog.cellsOf 30 = 3 := by kernel_rfl
theorem cells_str : Tryd.prog.cellsOf 9 = 1 := by kernel_rfl
theorem cells_bool : Tryd.prog.cellsOf 4 = 1 := by kernel_rfl
section
variable {H : Type} {enc : TypeId × Value → H} {w : World} {base : Nat} {spare : Nat → Bool} {held : Bool}
theorem open_fld {fuel : Nat} {cs : List Value} {x : DataW H × List MemPlace} (h : DataW.trod enc Tryd.prog w base spare held fuel 30 cs = some x) :
    ∃ f : HD.Fld, cs = [.string ⟨f.name.toArray⟩, .string ⟨f.value.toArray⟩, .bool f.sens] ∧ f.name.length ≤ maxLen ∧ f.value.length ≤ maxLen := by
  obtain ⟨ys, n', hn', hy, hlen, hyl, hf⟩ := DataW.trod_struct under_fldE h
  have h0 := hf 0 ⟨ "Name", 9, 0, false, "", "", 0⟩ rfl
  have h1 := hf 1 ⟨ "Value", 9, 1, false, "", "", 16⟩ rfl
  have h2 := hf 2 ⟨ "Sensitive", 4, 2, false, "", "", 32⟩ rfl
  clear hf
  dsimp only at h0 h1 h2
  rw [cells_str] at h0 h1
  rw [cells_bool] at h2
  rw [cells_fld] at hlen
  match cs, hlen, ys, hyl with
  | [c0, c1, c2], _, [y0, y1, y2], _ =>
    obtain ⟨n, e0, -, hn⟩ := DataW.trod_string Tryd.underlying9 (x := y0) (by simpa using h0)
    obtain ⟨v, e1, -, hv⟩ := DataW.trod_string Tryd.underlying9 (x := y1) (by simpa using h1)
    obtain ⟨b, e2, -⟩ := DataW.trod_bool Tryd.underlying4 (x := y2) (by simpa using h2)
    injection e0 with e0; injection e1 with e1; injection e2 with e2
    subst e0 e1 e2
    exact ⟨⟨n.data.toList, v.data.toList, b⟩, rfl, hn, hv⟩
end

/-- What is so of each place, as a list. -/
theorem list_of {α : Type} {P : Nat → α → Prop} : ∀ (n : Nat), (∀ i, i < n → ∃ x, P i x) → ∃ l : List α, l.length = n ∧ ∀ i (h : i < l.length), P i (l[i]'h)
  | 0, _ => ⟨[], rfl, fun i h => by simp at h⟩
  | n + 1, h => by
    obtain ⟨l, hl, hP⟩ := list_of n fun i hi => h i (by omega)
    obtain ⟨x, hx⟩ := h n (by omega)
    refine ⟨l ++ [x], by simp [hl], fun i hi => ?_⟩
    rcases Nat.lt_or_ge i l.length with h1 | h1
    · rw [List.getElem_append_left h1]; exact hP i h1
    · have : i = l.length := by simp at hi; omega
      subst this
      simp only [List.getElem_append_right (Nat.le_refl _), Nat.sub_self, List.getElem_cons_zero]
      rw [hl]; exact hx
theorem cells_parts {w : World} {base : Nat} {a : Addr} {n : Nat} {cs : List Value} (h : w.cells? base a n = some cs) (j : Nat) (v : Value) (hv : cs[j]? = some v) : w.cell? (a.add j) = some v := by
  obtain ⟨-, hl, hat⟩ := World.cells?_some h
  have := (List.getElem?_eq_some_iff.1 hv).1
  rw [hat j (by omega), hv]
theorem add_zero_zero (a : Addr) : (a.add 0).add 0 = a := by simp [Addr.add]
theorem spot_none {w : World} {a : Addr} {v : Value} (h : w.cell? a = some v) : ∃ g o, a = ⟨g, o, none⟩ := by
  obtain ⟨b, o, s⟩ := a
  cases s with
  | none => exact ⟨b, o, rfl⟩
  | some k =>
    unfold World.cell? at h
    simp at h
    split at h <;> cases h
/-- A Bool is handed back, and nothing that was there has changed. -/
def SomeBool (w : World) (e : Ending) (w' : World) : Prop := ∃ b : Bool, e = .returned (.bool b) ∧ Below w.heap.size w w'
theorem fits1_any (f : HD.Fld) (w : World) : Calls Tryd.prog 15 #[.agg #[.string ⟨f.name.toArray⟩, .string ⟨f.value.toArray⟩, .bool f.sens]] w (SomeBool w) := by
  obtain ⟨n, v, s⟩ := f
  dsimp only
  go_enter Tryd.func15, Tryd.ntmps15
  go_wp2
  all_goals go_ret
  all_goals exact ⟨_, rfl, (Below.refl _ _).alloc (Nat.le_refl _) _⟩
theorem flds_get : ∀ (l : List HD.Fld) (i : Nat) (h : i < l.length) (r : Nat), r < 3 → (flds l)[i * 3 + r]? = (fCells l[i])[r]? := by
  intro l
  induction l with
  | nil => intro i h; simp at h
  | cons f l ih =>
    intro i h r hr
    have hf : flds (f :: l) = fCells f ++ flds l := rfl
    cases i with
    | zero => rw [hf, Nat.zero_mul, Nat.zero_add, List.getElem?_append_left (by simpa [fCells] using hr)]; rfl
    | succ i =>
      rw [hf, show (i + 1) * 3 + r = 3 + (i * 3 + r) by omega, List.getElem?_append_right (by simp [fCells]), show 3 + (i * 3 + r) - (fCells f).length = i * 3 + r by simp [fCells]]
      exact ih i (by simpa using h) r hr
set_option maxRecDepth 100000 in
theorem open_flds {H : Type} {enc : TypeId × Value → H} {W : World} {base : Nat} {v1 : Value} {d1 : DataW H} {p1 : List MemPlace} (hval : Value.okWide Tryd.prog W .any base 22 v1) (h1 : DataW.Trod enc Tryd.prog W 0 (fun _ => true) true 22 v1 d1 p1) :
    ∃ sa cap, ∃ fs : List HD.Fld, v1 = .slice sa fs.length cap ∧ FSl W (.slice sa fs.length cap) fs ∧ fs.length ≤ cap ∧ fs.length ≤ maxLen ∧ ∀ f ∈ fs, f.name.length ≤ maxLen ∧ f.value.length ≤ maxLen := by
  obtain ⟨a1, len, cap, rfl⟩ := okWide_slice Tryd.underlying22 hval
  obtain ⟨fuel, hf⟩ := h1
  rcases Go.Deep.open_slice Tryd.underlying22 hf with ⟨hcs, hx⟩ | ⟨a, len', cap', m, n, D, Pl, hcs, hb, hl, hm, hmm, hx, hi⟩
  · simp [Value.cells] at hcs
    obtain ⟨rfl, rfl, rfl⟩ := hcs
    exact ⟨none, 0, [], rfl, ⟨none, 0, rfl, Nat.le_refl _, fun h => absurd rfl h⟩, Nat.le_refl _, Nat.zero_le _, fun r hr => by simp at hr⟩
  · simp [Value.cells] at hcs
    obtain ⟨rfl, rfl, rfl⟩ := hcs
    simp only [if_true] at hmm
    rw [cells_fld] at hi
    obtain ⟨fs, hsl, hss⟩ := list_of (P := fun i (f : HD.Fld) => (∀ j v, (fCells f)[j]? = some v → W.cell? ((a.add (i * 3)).add j) = some v) ∧ f.name.length ≤ maxLen ∧ f.value.length ≤ maxLen) len (fun i hil => by
      obtain ⟨cs', hc, ht⟩ := hi i (by omega)
      obtain ⟨f, rfl, hn, hv⟩ := open_fld ht
      exact ⟨f, fun j v hv => cells_parts hc j v hv, hn, hv⟩)
    refine ⟨_, cap, fs, by rw [hsl], ⟨_, cap, rfl, by omega, fun hne => ?_⟩, by omega, by omega, fun r hr => ?_⟩
    · have hpos : 0 < fs.length := List.length_pos_iff.2 hne
      have h0 := (hss 0 hpos).1 0 _ rfl
      rw [Nat.zero_mul, add_zero_zero] at h0
      obtain ⟨g, o, rfl⟩ := spot_none h0
      refine ⟨g, o, rfl, fun j u hu => ?_⟩
      have hj : j < (flds fs).length := (List.getElem?_eq_some_iff.1 hu).1
      rw [flds_len] at hj
      have hi3 : j / 3 < fs.length := by omega
      have hj3 : j = j / 3 * 3 + j % 3 := by omega
      rw [hj3, flds_get fs (j / 3) hi3 (j % 3) (by omega)] at hu
      have := (hss (j / 3) hi3).1 (j % 3) u hu
      rw [Lib.addr_add, Lib.addr_add] at this
      rw [hj3]
      rw [Nat.add_assoc] at this
      exact this
    · obtain ⟨i, hi', rfl⟩ := List.getElem_of_mem hr
      exact (hss i hi').2
def FitsEnds (w : World) (n : Nat) (e : Ending) (w' : World) : Prop := ∃ b : Bool, e = .returned (.bool b) ∧ Below w.heap.size w w' ∧ (b = true → n ≤ 2147483647)
set_option maxHeartbeats 1000000 in
set_option maxRecDepth 100000 in
theorem fits3_any (w : World) (a : Option Addr) (cap : Nat) (fs : List HD.Fld) (hm : FSl w (.slice a fs.length cap) fs) (hn : fs.length ≤ maxLen) :
    Calls Tryd.prog 4 #[.slice a fs.length cap] w (FitsEnds w fs.length) := by
  obtain ⟨a', c', e, hcap, hcell⟩ := hm
  injection e with e1 _ e2
  subst e1; subst e2
  unfold maxLen at hn
  obtain ⟨n, hnn⟩ : ∃ n, n = fs.length := ⟨_, rfl⟩
  rw [← hnn] at hcap hn ⊢
  have Hnn := Lib.hid hnn
  have Hcell := Lib.hid hcell
  clear hnn hcell
  by_cases hbig : 2147483647 < n
  · have hbI : (2147483647 : Int) < (n : Int) := by omega
    go_enter Tryd.func4, Tryd.ntmps4
    go_wp2_with fail
    go_ret
    exact ⟨_, rfl, Below.refl _ _, fun h => by cases h⟩
  · have hbI : ¬ (2147483647 : Int) < (n : Int) := by omega
    have d0 : decide ((2147483647 : Int) < (n : Int)) = false := decide_eq_false hbI
    go_enter Tryd.func4, Tryd.ntmps4
    go_wp2_with fail
    go_loopw [10] (fun iv wr => ∃ k : Nat, k ≤ n ∧ iv = .int .i64 (k : Nat) ∧ Below w.heap.size w wr) (fun iv _ => n - (intOf iv).toNat)
    case atStart => exact ⟨0, Nat.zero_le _, rfl, Below.refl _ _⟩
    case round =>
      obtain ⟨k, hk, rfl, hb⟩ := hrel
      rcases Nat.lt_or_ge k n with hlt | hge
      · have hkc : k < fs.length := by rw [← Hnn.out]; exact hlt
        have hkN : decide (k < n) = true := decide_eq_true hlt
        have hkI : (k : Int) < (n : Int) := by omega
        have hkcap : k < cap := by omega
        obtain ⟨g, o, rfl, hcl⟩ := Hcell.out (fun h => by rw [h] at hkc; simp at hkc)
        have hf := flds_at fs k hkc
        obtain ⟨f, hfe⟩ : ∃ f, f = fs[k] := ⟨_, rfl⟩
        rw [← hfe] at hf
        have up : ∀ j u, (flds fs)[j]? = some u → wr.cell? ⟨g, o + j, none⟩ = some u := fun j u hu => (hb.cell (World.block_lt_of_cell? _ _ (hcl j u hu))).trans (hcl j u hu)
        have q0 : wr.cell? ⟨g, o + k * 3, none⟩ = some (.string ⟨f.name.toArray⟩) := up _ _ hf.1
        have q1 : wr.cell? ⟨g, o + k * 3 + 1, none⟩ = some (.string ⟨f.value.toArray⟩) := up _ _ hf.2.1
        have q2 : wr.cell? ⟨g, o + k * 3 + 2, none⟩ = some (.bool f.sens) := up _ _ hf.2.2
        have Hb := Lib.hid hb
        have hsz := hb.size
        clear hb hcl hf hfe up
        go_wp2_with fail
        refine (fits1_any f _).mono ?_
        rintro e w1 ⟨b, rfl, hb1⟩
        have Hb1 : Hid (Below w.heap.size w w1) := Lib.hid ((Hb.out.alloc hsz _).trans (hb1.mono (by simp; omega)))
        clear hb1
        cases b
        · go_wp2_with fail
          go_ret
          exact ⟨_, rfl, Hb1.out, fun h => by cases h⟩
        · go_wp2_with fail
          exact ⟨⟨k + 1, hlt, by go_num, Hb1.out⟩, by simp [intOf]; omega⟩
      · obtain rfl : k = n := Nat.le_antisymm hk hge
        go_wp2_with fail
        go_ret
        exact ⟨_, rfl, hb, fun _ => by omega⟩
end Go.Proofs.YtmlnmllnlekcgaaDoor
/-
  The contract of short: whether texts are few enough bytes. No condition but bounds on lengths.
-/
namespace Go.Proofs.YtmlnmllnlekcgaaDoor
open Go.ChangeShapes Go.WideShapes Go.ChangeAt Go.RowKit

/-- The sum of texts' lengths. -/
def sumSz (l : List ByteArray) : Nat := (l.map (·.size)).sum
theorem sumSz_take {l : List ByteArray} {k : Nat} (h : k < l.length) : sumSz (l.take (k + 1)) = sumSz (l.take k) + (l[k]'h).size := by
  unfold sumSz
  rw [List.take_succ_eq_append_getElem h, List.map_append, List.sum_append]
  simp only [List.map_cons, List.map_nil, List.sum_cons, List.sum_nil, Nat.add_zero]
theorem sumSz_le {l : List ByteArray} (k : Nat) : sumSz (l.take k) ≤ sumSz l := by
  unfold sumSz
  conv => rhs; rw [← List.take_append_drop k l, List.map_append, List.sum_append]
  exact Nat.le_add_right _ _

theorem short_any (b off cap : Nat) (ss : List ByteArray) (w : World) (hl : ss.length ≤ maxLen) (hs : ∀ s ∈ ss, s.size ≤ maxLen)
    (hc : ∀ i (h : i < ss.length), w.cell? ⟨b, off + i, none⟩ = some (.string (ss[i]'h))) :
    Calls Tryd.prog 6 #[.slice (some ⟨b, off, none⟩) ss.length cap] w fun e w' => e = .returned (.bool (decide (sumSz ss ≤ 1048576))) ∧ w = w' := by
  unfold maxLen at hl hs
  have Hc := Lib.hid hc
  have Hs := Lib.hid hs
  clear hc hs
  go_enter Tryd.func6, Tryd.ntmps6
  go_wp2
  go_loop [3, 8] (fun n i => ∃ k : Nat, k ≤ ss.length ∧ i = .int .i64 k ∧ n = .int .i64 (sumSz (ss.take k)) ∧ sumSz (ss.take k) ≤ 1048576) (fun _ i => ss.length - (intOf i).toNat)
  case atStart => exact ⟨0, Nat.zero_le _, rfl, rfl, by simp [sumSz]⟩
  case round =>
    obtain ⟨k, hk, rfl, rfl, hsum⟩ := hrel
    generalize hn : sumSz (ss.take k) = n at *
    have Hn := Lib.hid hn
    clear hn
    by_cases hlt : k < ss.length
    · have hcell := Hc.out k hlt
      have hsz := Hs.out _ (List.getElem_mem hlt)
      have Hnext := Lib.hid (sumSz_take hlt)
      have Hle := Lib.hid (sumSz_le (l := ss) (k + 1))
      generalize ss[k]'hlt = s at *
      by_cases hb : s.size + n ≤ 1048576
      · go_wp2
        go_round
        case rel => exact ⟨k + 1, by omega, by go_num, by rw [Hnext.out, Hn.out]; go_num, by rw [Hnext.out, Hn.out]; omega⟩
        case measure => simp [intOf]; omega
      · go_wp2
        go_ret
        exact ⟨by rw [decide_eq_false (show ¬ sumSz ss ≤ 1048576 by have := Hle.out; rw [Hnext.out, Hn.out] at this; omega)]; rfl, rfl⟩
    · go_wp2
      go_ret
      have e : k = ss.length := by omega
      have h2 := Hn.out
      rw [e, List.take_length] at h2
      exact ⟨by rw [decide_eq_true (show sumSz ss ≤ 1048576 by omega)]; rfl, rfl⟩
end Go.Proofs.YtmlnmllnlekcgaaDoor
/-
  The walk of FnDecodeTable.
-/
namespace Go.Proofs.YtmlnmllnlekcgaaDoor.FnDecodeTable
open Go.ChangeShapes Go.WideShapes Go.ChangeAt Go.RowKit

def whCells (v : HD.Bs) (b : Value) : List Value := cmdCells (.write v) b ++ cmdCells .close (.slice none 0 0)
/-- What stands in memory when the loop over the fields comes round: the block, the table. -/
structure TInv (p : Nat) (w1 wr : World) (size : Nat) (fs : List HD.Fld) (bv : Value) (tv : Value) : Prop where
  own : wr.ownsRow (p + 1) 5 1 bv (HD.lits fs).length (Lib.byteCells (HD.lits fs))
  tab : TabS wr p tv (HD.saddAll size [] fs) size
  ap : ∀ g, tv.ownBlock = some g → bv.ownBlock ≠ some g
  bl : Below p w1 wr
theorem lits_snoc (fs : List HD.Fld) (f : HD.Fld) : HD.lits (fs ++ [f]) = HD.lits fs ++ HD.plit f := by simp [HD.lits]
theorem saddAll_small (size : Nat) : ∀ (fs : List HD.Fld) (E : List (HD.Bs × HD.Bs)), SmallE E → (∀ f ∈ fs, f.name.length + f.value.length ≤ 2 ^ 20) → SmallE (HD.saddAll size E fs)
  | [], E, h, _ => h
  | f :: fs, E, h, hf => saddAll_small size fs _ (fun e he => by
      rcases HD.sadd_sub size E _ e he with rfl | h1
      · exact hf f List.mem_cons_self
      · exact h e h1) fun g hg => hf g (List.mem_cons_of_mem _ hg)
theorem plit_len (f : HD.Fld) (hn : f.name.length ≤ 2 ^ 20) (hv : f.value.length ≤ 2 ^ 20) : (HD.plit f).length ≤ 15 + f.name.length + f.value.length := by
  have h1 := ptxt_le hn
  have h2 := ptxt_le hv
  unfold HD.plit
  rw [List.length_cons, List.length_append]; omega
theorem FSl.updF {w w' : World} {v : Value} {l : List HD.Fld} {F : Nat → Prop} (h : FSl w v l) (hp : ∀ g, v.ownBlock = some g → ¬ F g) (hu : Upd F w w') : FSl w' v l := by
  obtain ⟨a, c, rfl, hc, hcl⟩ := h
  refine ⟨a, c, rfl, hc, fun hne => ?_⟩
  obtain ⟨g, o, rfl, hcell⟩ := hcl hne
  exact ⟨g, o, rfl, fun j u hu' => (World.cell?_of_block (a := ⟨g, o + j, none⟩) (hu.block g (World.block_lt_of_cell? _ _ (hcell j u hu')) (hp g rfl))).trans (hcell j u hu')⟩
theorem TabS.updF {w w' : World} {p : Nat} {v : Value} {E : List (HD.Bs × HD.Bs)} {max : Nat} {F : Nat → Prop} (h : TabS w p v E max) (hp : ¬ F p) (hv : ∀ g, v.ownBlock = some g → ¬ F g) (hu : Upd F w w') : TabS w' p v E max :=
  ⟨h.row.of_heap (hu.block p h.row.lt hp), FSl.updF h.fsl hv hu, h.ap, h.nl⟩
theorem TabS.below {w w' : World} {p : Nat} {v : Value} {E : List (HD.Bs × HD.Bs)} {max : Nat} (h : TabS w p v E max) (hb : Below w.heap.size w w') : TabS w' p v E max :=
  ⟨h.row.below hb h.row.lt, h.fsl.mono hb, h.ap, h.nl⟩
theorem TInv.alloc {p size : Nat} {w1 wr : World} {fs : List HD.Fld} {bv tv : Value} (h : TInv p w1 wr size fs bv tv) (o : Obj) : TInv p w1 (wr.alloc o) size fs bv tv :=
  ⟨h.own.alloc _, TabS.below h.tab ((Below.refl _ _).alloc (Nat.le_refl _) _), h.ap, h.bl.alloc (Nat.le_of_lt h.tab.row.lt) _⟩
theorem TInv.below {p size : Nat} {w1 wr w' : World} {fs : List HD.Fld} {bv tv : Value} (h : TInv p w1 wr size fs bv tv) (hb : Below wr.heap.size wr w') : TInv p w1 w' size fs bv tv :=
  ⟨ownsRow_of_heap h.own fun g hg => hb.block g (h.own.lt g hg).2, TabS.below h.tab hb, h.ap, h.bl.trans (hb.mono (Nat.le_of_lt h.tab.row.lt))⟩
/-- A literal's bytes are appended. -/
theorem TInv.app {p size : Nat} {w1 wr w' : World} {fs : List HD.Fld} {bv bv' tv : Value} {f : HD.Fld} (h : TInv p w1 wr size fs bv tv) (hown : w'.ownsRow (p + 1) 5 1 bv' ((HD.lits fs).length + (HD.plit f).length) (Lib.byteCells (HD.lits fs) ++ Lib.byteCells (HD.plit f))) (hg : wr.grownBy w' bv.ownBlock) :
    TabS w' p tv (HD.saddAll size [] fs) size ∧ w'.ownsRow (p + 1) 5 1 bv' (HD.lits (fs ++ [f])).length (Lib.byteCells (HD.lits (fs ++ [f]))) ∧ Below p w1 w' := by
  have hu : Upd (fun i => bv.ownBlock = some i) wr w' := Upd.of_grown hg fun k hk => hk
  refine ⟨TabS.updF h.tab (fun e => by have := (h.own.lt p e).1; omega) (fun g hg' => h.ap g hg') hu, ?_, h.bl.grown hg (Nat.le_of_lt h.tab.row.lt) (fun k hk => by have := (h.own.lt k hk).1; omega)⟩
  rw [lits_snoc, List.length_append, byteCells_append]; exact hown
/-- The field is added to the table. -/
theorem TInv.add {p size : Nat} {w1 wr w' : World} {fs : List HD.Fld} {bv tv' : Value} {f : HD.Fld} (hown : wr.ownsRow (p + 1) 5 1 bv (HD.lits (fs ++ [f])).length (Lib.byteCells (HD.lits (fs ++ [f])))) (hb : Below p w1 wr) (hp : p < wr.heap.size)
    (ht : TabS w' p tv' (HD.sadd size (HD.saddAll size [] fs) (HD.pent f)) size) (hu : Upd (fun i => i = p) wr w') (hv : ∀ g, tv'.ownBlock = some g → wr.heap.size ≤ g) : TInv p w1 w' size (fs ++ [f]) bv tv' := by
  refine ⟨ownsRow_of_heap hown fun g hg => hu.block g (hown.lt g hg).2 (fun e => by have := (hown.lt g hg).1; omega), by rw [HD.saddAll_snoc]; exact ht, fun g h1 h2 => ?_, ?_⟩
  · have := hv g h1
    have := (hown.lt g h2).2
    omega
  · exact hb.trans (hu.below (Nat.le_of_lt hp) (fun k hk => by omega))
/-- What stands behind the fields of a slice: the last field alone. -/
theorem fsl_last {w : World} {a : Option Addr} {c : Nat} {l : List HD.Fld} {f : HD.Fld} (h : FSl w (.slice a (l.length + 1) c) (l ++ [f])) : ∃ g o, a = some ⟨g, o, none⟩ ∧ l.length + 1 ≤ c ∧ FSl w (.slice (some ⟨g, o + l.length * 3, none⟩) 1 (c - l.length)) [f] := by
  obtain ⟨a', c', e, hc, hcl⟩ := h
  injection e with e1 _ e2
  subst e1; subst e2
  obtain ⟨g, o, rfl, hcell⟩ := hcl (by simp)
  rw [List.length_append, List.length_singleton] at hc
  refine ⟨g, o, rfl, hc, _, _, rfl, by rw [List.length_singleton]; omega, fun _ => ⟨g, _, rfl, fun j u hu => ?_⟩⟩
  rw [Nat.add_assoc]
  refine hcell _ _ ?_
  rw [flds_append, List.getElem?_append_right (by rw [flds_len]; omega), flds_len, Nat.add_sub_cancel_left]
  exact hu
theorem cmdV_grown {w w' : World} {row : Option Nat} {c : HD.Cmd} {b : Value} (h : CmdV w c b) (hg : w.grownBy w' row) (hr : ∀ q, b.ownBlock = some q → row ≠ some q) : CmdV w' c b :=
  ⟨h.1, h.2.1, h.2.2.imp id fun ⟨ad, cap, e, hb, ht⟩ => ⟨ad, cap, e, fun q u hu => (World.cell?_of_block (hg.block (ad.add q).block (World.block_lt_of_cell? w _ (hb q u hu)) (fun e2 => hr ad.block (by rw [e]; rfl) (by rw [← e2]; congr 1; unfold Addr.add; (try split) <;> rfl)))).trans (hb q u hu), ht⟩⟩
set_option maxHeartbeats 4000000 in
set_option maxRecDepth 100000 in
theorem main (size k : Nat) (sa : Option Addr) (cap : Nat) (fs : List HD.Fld) (W : World) (hm : FSl W (.slice sa fs.length cap) fs) (hcap : fs.length ≤ cap) (hn : fs.length ≤ maxLen) (hml : ∀ f ∈ fs, f.name.length ≤ maxLen ∧ f.value.length ≤ maxLen) (aN : Addr) (hE : EnvO W.heap.size W aN aN aN) (hsz : size ≤ 2 ^ 31) (hk20 : k ≤ 2 ^ 20) (hn20 : fs.length ≤ 2 ^ 20) :
    Calls Tryd.prog 3 #[.int .i64 (size : Nat), .slice sa fs.length cap, .int .i64 (k : Nat)] W fun e W' => e = .returned (.bool true) ∧ Below W.heap.size W W' := by
  obtain ⟨n, hnn⟩ : ∃ n, n = fs.length := ⟨_, rfl⟩
  have hcap' : n ≤ cap := by omega
  obtain ⟨i0, hi, hz0, hz1, hzb⟩ := info_parts infoU8
  have f3 := fun (w : World) (hb : Below W.heap.size W w) => fits3_any w sa cap fs (hm.mono hb) hn
  have Hi := Lib.hid hi
  have Hml := Lib.hid hml
  have Hm := Lib.hid hm
  have HE := Lib.hid hE
  have Hnn := Lib.hid hnn
  rw [← hnn] at f3 hn20 ⊢
  have F3 := Lib.hid f3
  have d5 : decide (0 ≤ (size : Int) ∧ (size : Int) ≤ 2147483648) = true := decide_eq_true ⟨by omega, by omega⟩
  have d6 : decide ((k : Int) < 0) = false := decide_eq_false (by omega)
  have d7 : decide ((1048576 : Int) < (k : Int)) = false := decide_eq_false (by omega)
  have d8 : decide ((1048576 : Int) < (n : Int)) = false := decide_eq_false (by omega)
  clear hi hcap hn hml hm hE hnn f3
  go_enter Tryd.func3, Tryd.ntmps3
  go_wp2_with fail
  refine (F3.out _ (Below.refl _ _)).mono ?_
  rintro e w1 ⟨b, rfl, hb1, -⟩
  have Hb1 := Lib.hid hb1
  clear hb1
  cases b with
  | false =>
    go_wp2_with fail
    go_ret
    exact ⟨rfl, Hb1.out⟩
  | true =>
    go_wp2_with fail
    refine (isSize_any _ _).mono ?_
    rintro e w2 ⟨rfl, hw2⟩
    subst hw2
    rw [d5]
    clear d5
    go_wp2_with fail
    have hT0 : TInv w2.heap.size w2 ((w2.alloc (.cells #[.slice none 0 0, .int .i64 (size : Nat)] 27)).alloc (.cells #[] 5)) size [] (.slice (some ⟨w2.heap.size + 1, 0, none⟩) 0 0) (.slice none 0 0) := by
      refine ⟨?_, ⟨?_, ⟨none, 0, rfl, Nat.le_refl _, fun h => absurd rfl h⟩, by simp [Value.ownBlock], fun n c h => by injection h with _ _ h; exact h.symm⟩, (fun g h => by cases h), ((Below.refl _ _).alloc (Nat.le_refl _) _).alloc (by simp) _⟩
      · refine ⟨by simp [HD.lits, Lib.byteCells], Or.inr ⟨w2.heap.size + 1, 0, #[], rfl, Nat.le_refl _, ?_, Nat.le_refl _, Nat.zero_le _, by simp, by simp [HD.lits, Lib.byteCells]⟩⟩
        have := heap_alloc_new (w2.alloc (.cells #[.slice none 0 0, .int .i64 (size : Nat)] 27)) (.cells #[] 5)
        rwa [World.size_alloc] at this
      · exact ((Row.of_cells w2 #[.slice none 0 0, .int .i64 (size : Nat)] 27 (by decide) 2 rfl).congr fun i hi => by
          match i, hi with
          | 0, _ => rfl
          | 1, _ => rfl).alloc _
    have HT0 := Lib.hid hT0
    clear hT0
    go_loopw [8, 44] (fun bv iv wr => ∃ (j : Nat) (tv : Value), j ≤ n ∧ iv = .int .i64 (j : Nat) ∧ TInv w2.heap.size w2 wr size (fs.take j) bv tv ∧ (HD.lits (fs.take j)).length ≤ 2 ^ 22 ∧ ∀ f ∈ fs.take j, f.name.length + f.value.length ≤ 2 ^ 20) (fun _ iv _ => n - (intOf iv).toNat)
    case atStart => exact ⟨0, _, Nat.zero_le _, rfl, HT0.out, by simp [HD.lits], fun f hf => by simp at hf⟩
    case round =>
      obtain ⟨j, tv, hj, rfl, hT, hl22, hsm⟩ := hrel
      obtain ⟨ba, bc, rfl⟩ := own_form hT.own
      obtain ⟨L, hL⟩ : ∃ L, L = (HD.lits (fs.take j)).length := ⟨_, rfl⟩
      rw [← hL] at hl22 ⊢
      have hbW : Below W.heap.size W wr := Hb1.out.trans (hT.bl.mono Hb1.out.size)
      rcases Nat.lt_or_ge j n with hlt | hge
      · have hjc : j < fs.length := by rw [← Hnn.out]; exact hlt
        have hjN : decide (j < n) = true := decide_eq_true hlt
        have hjI : (j : Int) < (n : Int) := by omega
        have hjcap : j < cap := by omega
        obtain ⟨a', c', e, -, hcell⟩ := Hm.out
        injection e with e1 _ e2
        subst e1; subst e2
        obtain ⟨g, o, rfl, hcl⟩ := hcell (fun h => by rw [h] at hjc; simp at hjc)
        have hf := flds_at fs j hjc
        obtain ⟨f, hfe⟩ : ∃ f, f = fs[j] := ⟨_, rfl⟩
        have htk : fs.take (j + 1) = fs.take j ++ [f] := by rw [hfe]; exact (List.take_append_getElem hjc).symm
        rw [← hfe] at hf
        have hml' := Hml.out f (by rw [hfe]; exact List.getElem_mem hjc)
        have up : ∀ i u, (flds fs)[i]? = some u → wr.cell? ⟨g, o + i, none⟩ = some u := fun i u hu => (hbW.cell (World.block_lt_of_cell? _ _ (hcl i u hu))).trans (hcl i u hu)
        have q0 : wr.cell? ⟨g, o + j * 3, none⟩ = some (.string ⟨f.name.toArray⟩) := up _ _ hf.1
        have q1 : wr.cell? ⟨g, o + j * 3 + 1, none⟩ = some (.string ⟨f.value.toArray⟩) := up _ _ hf.2.1
        have q2 : wr.cell? ⟨g, o + j * 3 + 2, none⟩ = some (.bool f.sens) := up _ _ hf.2.2
        have HT := Lib.hid hT
        have HL := Lib.hid hL
        have Hsm := Lib.hid hsm
        have HbW := Lib.hid hbW
        have Htk := Lib.hid htk
        have Hml' := Lib.hid hml'
        clear hT hL hsm hbW htk hml' hcell hcl hf hfe up
        by_cases hbig : 1048576 < L
        · have dL : decide ((1048576 : Int) < (L : Int)) = true := decide_eq_true (by omega)
          go_wp2_with fail
          go_ret
          exact ⟨rfl, HbW.out.alloc HbW.out.size _⟩
        · have dL : decide ((1048576 : Int) < (L : Int)) = false := decide_eq_false (by omega)
          obtain ⟨x, hx⟩ : ∃ x, x = f.name.length := ⟨_, rfl⟩
          obtain ⟨y, hy⟩ : ∃ y, y = f.value.length := ⟨_, rfl⟩
          have hszn : (⟨f.name.toArray⟩ : ByteArray).size = x := by rw [hx]; simp [ByteArray.size]
          have hszv : (⟨f.value.toArray⟩ : ByteArray).size = y := by rw [hy]; simp [ByteArray.size]
          have hsum : sumSz [⟨f.name.toArray⟩, ⟨f.value.toArray⟩] = x + y := by simp only [sumSz, List.map_cons, List.map_nil, List.sum_cons, List.sum_nil, hszn, hszv]; omega
          have Hx := Lib.hid hx
          have Hy := Lib.hid hy
          have Hsum := Lib.hid hsum
          have Hszn := Lib.hid hszn
          have Hszv := Lib.hid hszv
          clear hx hy hsum hszn hszv
          have hT2 := (HT.out.alloc (.cells #[.string ⟨f.name.toArray⟩, .string ⟨f.value.toArray⟩, .bool f.sens] 30)).alloc (.cells #[.string ⟨f.name.toArray⟩, .string ⟨f.value.toArray⟩] 9)
          have HT2 := Lib.hid hT2
          clear hT2
          go_wp2_with fail
          refine (short_any (wr.heap.size + 1) 0 2 [⟨f.name.toArray⟩, ⟨f.value.toArray⟩] _ (by simp [maxLen]) (by
            intro s hs
            simp only [List.mem_cons, List.not_mem_nil, or_false] at hs
            have := Hml'.out
            rcases hs with rfl | rfl
            · rw [Hszn.out, Hx.out]; exact this.1
            · rw [Hszv.out, Hy.out]; exact this.2) (by
            intro i hi
            have hk := heap_alloc_new (wr.alloc (.cells #[.string ⟨f.name.toArray⟩, .string ⟨f.value.toArray⟩, .bool f.sens] 30)) (.cells #[.string ⟨f.name.toArray⟩, .string ⟨f.value.toArray⟩] 9)
            rw [World.size_alloc] at hk
            match i, hi with
            | 0, _ => exact (Lib.cell_of_heap hk 0).trans rfl
            | 1, _ => exact (Lib.cell_of_heap hk 1).trans rfl)).mono ?_
          rintro e w3 ⟨rfl, hw3⟩
          subst hw3
          rw [Hsum.out]
          have hT2 := HT2.out
          have hb2 : Below wr.heap.size wr ((wr.alloc (.cells #[.string ⟨f.name.toArray⟩, .string ⟨f.value.toArray⟩, .bool f.sens] 30)).alloc (.cells #[.string ⟨f.name.toArray⟩, .string ⟨f.value.toArray⟩] 9)) := ((Below.refl _ _).alloc (Nat.le_refl _) _).alloc (by simp) _
          have hrf : Row ((wr.alloc (.cells #[.string ⟨f.name.toArray⟩, .string ⟨f.value.toArray⟩, .bool f.sens] 30)).alloc (.cells #[.string ⟨f.name.toArray⟩, .string ⟨f.value.toArray⟩] 9)) wr.heap.size 3 _ := (Row.of_cells wr #[.string ⟨f.name.toArray⟩, .string ⟨f.value.toArray⟩, .bool f.sens] 30 (by decide) 3 rfl).alloc _
          generalize (wr.alloc (.cells #[.string ⟨f.name.toArray⟩, .string ⟨f.value.toArray⟩, .bool f.sens] 30)).alloc (.cells #[.string ⟨f.name.toArray⟩, .string ⟨f.value.toArray⟩] 9) = w4 at hT2 hb2 hrf ⊢
          have hbW4 := HbW.out.trans (hb2.mono HbW.out.size)
          have HT4 := Lib.hid hT2
          have HbW4 := Lib.hid hbW4
          have Hrf := Lib.hid hrf
          clear hT2 hb2 hrf hbW4 HT2 q0 q1 q2
          by_cases hxy : x + y ≤ 1048576
          · have hd : decide (x + y ≤ 1048576) = true := decide_eq_true hxy
            rw [hd]
            have c0 := Hrf.out.cell' (i := 0) (v := .string ⟨f.name.toArray⟩) (by decide) rfl
            have c1 := Hrf.out.cell' (i := 1) (v := .string ⟨f.value.toArray⟩) (by decide) rfl
            have c2 := Hrf.out.cell' (i := 2) (v := .bool f.sens) (by decide) rfl
            have hfn : f.name.length ≤ 2 ^ 20 := by rw [← Hx.out]; omega
            have hfv : f.value.length ≤ 2 ^ 20 := by rw [← Hy.out]; omega
            go_wp2_with fail
            refine (literal_any f _ hfn hfv).mono ?_
            rintro e w5 ⟨a5, c5, rfl, hown5, hb5⟩
            obtain ⟨g5, c5', e5, hcc5, -, -, -⟩ := own_some hown5 (by simp [HD.plit])
            injection e5 with e51 _ e53
            subst e51; subst e53
            have hlen := plit_len f hfn hfv
            have hc5 : ∀ i u, (Lib.byteCells (HD.plit f))[i]? = some u → w5.cell? ((⟨g5, 0, none⟩ : Addr).add i) = some u := hown5.cells (g := g5) rfl
            obtain ⟨M, hM⟩ : ∃ M, M = (HD.plit f).length := ⟨_, rfl⟩
            have hbl5 : (Lib.byteCells (HD.plit f)).length = M * 1 := by rw [byteCells_len, Nat.mul_one, hM]
            rw [← hM] at hlen ⊢
            have hT5 := TInv.below HT4.out hb5
            have hown4 := hT5.own
            rw [← HL.out] at hown4
            have hbo : ∀ q, (Value.slice ba L bc).ownBlock = some q → q < wr.heap.size := fun q hq => by have h := HT.out.own; rw [← HL.out] at h; exact (h.lt q hq).2
            have hrf5 := Hrf.out.below hb5 Hrf.out.lt
            have hsz5 := hb5.size
            have HM := Lib.hid hM
            have HT5 := Lib.hid hT5
            have Hown4 := Lib.hid hown4
            have Hc5 := Lib.hid hc5
            have Hbl5 := Lib.hid hbl5
            have Hbo := Lib.hid hbo
            have Hrf5 := Lib.hid hrf5
            have HbW5 := Lib.hid (HbW4.out.trans (hb5.mono HbW4.out.size))
            have hlo5 : w2.heap.size + 1 ≤ w5.heap.size := by have := HT5.out.tab.row.lt; omega
            clear hown5 hb5 hc5 hM hbl5 hT5 hown4 hbo hrf5 c0 c1 c2
            have hb40 : M ≤ 2 ^ 23 := by have := Hx.out; have := Hy.out; omega
            go_wp2_with (at_builtin; go_must (refine wpList_append_own_at _ rfl _ _ 28 rfl (w2.heap.size + 1) 5 i0 (.int .u8 0) 1 1 Tryd.underlying28 Hi.out hz0 hz1 hzb rfl (by decide) (.slice ba L bc) L (Lib.byteCells (HD.lits (fs.take j))) rfl Hown4.out ⟨g5, 0, none⟩ M c5 (Lib.byteCells (HD.plit f)) rfl Hbl5.out Hc5.out (Lib.byteCells_one _) (by unfold maxLen; omega) (by omega) hlo5 ?_); intro v6 w6 hown6 hgrow6 _ _; have hrf6 := Hrf5.out.of_heap (hgrow6.block wr.heap.size Hrf5.out.lt (fun e => by have := Hbo.out _ e.symm; omega)); have c0 := hrf6.cell' (i := 0) (v := .string ⟨f.name.toArray⟩) (by decide) rfl; have c1 := hrf6.cell' (i := 1) (v := .string ⟨f.value.toArray⟩) (by decide) rfl; have c2 := hrf6.cell' (i := 2) (v := .bool f.sens) (by decide) rfl; have Hown6 := Lib.hid hown6; have Hgrow6 := Lib.hid hgrow6; clear hown6 hgrow6 hrf6)
            obtain ⟨hT6, hown6, hb6⟩ := TInv.app HT5.out (bv' := v6) (by rw [← HL.out, ← HM.out]; exact Hown6.out) (by rw [← HL.out]; exact Hgrow6.out)
            have hsm6 : SmallE (HD.saddAll size [] (fs.take j)) := saddAll_small size _ _ (fun e he => by simp at he) Hsm.out
            have hln6 : (HD.saddAll size [] (fs.take j)).length + 1 ≤ 2 ^ 22 := by
              have := HD.saddAll_len size (fs.take j) []
              rw [List.length_take, List.length_nil] at this
              omega
            have HT6 := Lib.hid hT6
            have Hown6' := Lib.hid hown6
            have Hb6 := Lib.hid hb6
            clear hT6 hown6 hb6 c0 c1 c2
            refine (tadd_any w6 _ _ _ size f HT6.out hsz hln6 hsm6 (by rw [← Hx.out, ← Hy.out]; omega)).mono ?_
            rintro e w7 ⟨rfl, tv', hT7, hu7, hv7⟩
            have hT7 := TInv.add Hown6'.out Hb6.out HT6.out.row.lt hT7 hu7 hv7
            rw [← Htk.out] at hT7
            have HT7 := Lib.hid hT7
            clear hT7 hu7 hv7
            go_wp2_with fail
            refine ⟨⟨j + 1, tv', hlt, by go_num, HT7.out, ?_, ?_⟩, by simp [intOf]; omega⟩
            · rw [Htk.out, lits_snoc, List.length_append, ← HL.out, ← HM.out]; omega
            · intro q hq
              rw [Htk.out] at hq
              rcases List.mem_append.1 hq with h | h
              · exact Hsm.out q h
              · rw [List.mem_singleton.1 h, ← Hx.out, ← Hy.out]; omega
          · have hd : decide (x + y ≤ 1048576) = false := decide_eq_false hxy
            rw [hd]
            go_wp2_with fail
            go_ret
            exact ⟨rfl, HbW4.out⟩
      · obtain rfl : j = n := Nat.le_antisymm hj hge
        have e1 : fs.take j = fs := by rw [Hnn.out]; exact List.take_length
        rw [e1] at hT hL hsm
        obtain ⟨V, hV⟩ : ∃ V, V = HD.lits fs := ⟨_, rfl⟩
        have hown := hT.own
        rw [← hV] at hown hL
        have hff : FineF fs := fun f hf => by have := hsm f hf; omega
        have hst := whole_steps wr V ba bc (by have := CmdV.write_own (by omega) hown; rwa [← hL] at this ⊢)
        have HT := Lib.hid hT
        have HV := Lib.hid hV
        have HL := Lib.hid hL
        have Hsm := Lib.hid hsm
        have Hff := Lib.hid hff
        have HbW := Lib.hid hbW
        have Hst := Lib.hid hst
        clear e1 hT hV hown hL hsm hff hbW hst
        go_wp2_with fail
        refine (whole_any _ _ _ _).mono ?_
        rintro e w3 ⟨rfl, hw3⟩
        have hst := Hst.out
        rw [← HL.out, ← hw3, HV.out] at hst
        have hb3 : Below wr.heap.size wr w3 := by rw [hw3]; exact (Below.refl _ _).alloc (Nat.le_refl _) _
        have Hb3 := Lib.hid (HbW.out.trans (hb3.mono HbW.out.size))
        have HT3 := Lib.hid (TInv.below HT.out hb3)
        have Hst3 := Lib.hid hst
        have hV24 : (HD.lits fs).length ≤ 2 ^ 24 := by rw [← HV.out, ← HL.out]; omega
        clear hst hw3 hb3 Hst
        go_wp2_with fail
        refine (decode_one w3 size aN wr.heap.size fs _ hsz ((HE.out.below Hb3.out).mono Hb3.out.size) Hst3.out Hff.out hV24).mono ?_
        rintro e w4 ⟨g4, c4, rfl, hans, hb4⟩
        have hrd := read_whole hans hV24
        rw [show HD.rd [] (HD.drun (st0 size) (wholeCmds (HD.lits fs))) = (fs.map HD.pfl, none) from HD.tab_one size fs Hff.out] at hrd
        have Hrd4 := Lib.hid hrd
        have Hb4 := Lib.hid (Hb3.out.trans (hb4.mono Hb3.out.size))
        have HT4 := Lib.hid (TInv.below HT3.out hb4)
        clear hans hrd hb4 Hst3
        go_wp2_with fail
        refine Hrd4.out.mono ?_
        rintro e w5 ⟨a5, c5, rfl, -, hb5⟩
        have Hb5 := Lib.hid (Hb4.out.trans (hb5.mono Hb4.out.size))
        have HT5 := Lib.hid (TInv.below HT4.out hb5)
        clear hb5
        go_wp2_with fail
        refine (whole_any _ _ _ _).mono ?_
        rintro e w6 ⟨rfl, hw6⟩
        have ho6 := own_new (w := w5) (whCells V (.slice ba L bc)).toArray 58 4 2 rfl (by decide)
        rw [show w5.alloc (.cells (whCells V (.slice ba L bc)).toArray 58) = w6 from hw6.symm] at ho6
        have hb6 : Below w5.heap.size w5 w6 := by rw [hw6]; exact (Below.refl _ _).alloc (Nat.le_refl _) _
        have h56 : w5.heap.size < w6.heap.size := by rw [hw6]; simp
        have Ho6 := Lib.hid ho6
        have Hb6 := Lib.hid (Hb5.out.trans (hb6.mono Hb5.out.size))
        have Hd6 := Lib.hid hb6
        have HT6 := Lib.hid (TInv.below HT5.out hb6)
        have hwk : IntKind.i64.wrap ((62 : Int) + (k : Int)) = ((62 + k : Nat) : Int) := by rw [IntKind.wrap_i64]; omega
        clear hw6 hb6 ho6
        go_wp2_with fail
        rw [show (62 : Int) + (k : Int) = ((62 + k : Nat) : Int) by omega]
        refine (specIndexed_any (62 + k) _ (by omega)).mono ?_
        rintro e w7 ⟨a7, c7, rfl, hown7, hb7⟩
        have hxl := HD.intg_len 128 7 (62 + k) (by omega)
        have hcm7 := CmdV.write_own (by omega) hown7
        have hlt7 : ∀ q, (Value.slice a7 (HD.intg 128 7 (62 + k)).length c7).ownBlock = some q → w6.heap.size ≤ q := fun q hq => (hown7.lt q hq).1
        obtain ⟨X, hX⟩ : ∃ X, X = HD.intg 128 7 (62 + k) := ⟨_, rfl⟩
        rw [← hX] at hxl hcm7 hlt7 ⊢
        have Ho7 := Lib.hid (ownsRow_of_heap Ho6.out fun g hg => hb7.block g (Ho6.out.lt g hg).2)
        have Hb7 := Lib.hid (Hb6.out.trans (hb7.mono Hb6.out.size))
        have Hd7 := Lib.hid (Hd6.out.trans (hb7.mono Hd6.out.size))
        have HT7 := Lib.hid (TInv.below HT6.out hb7)
        have HX := Lib.hid hX
        have Hcm7 := Lib.hid hcm7
        clear hown7 hb7 hX hcm7 Ho6
        go_wp2_with fail
        refine (whole_any _ _ _ _).mono ?_
        rintro e w8 ⟨rfl, hw8⟩
        have hn8 : ∀ i u, (whCells X (.slice a7 X.length c7))[i]? = some u → w8.cell? ((⟨w7.heap.size, 0, none⟩ : Addr).add i) = some u := by
          rw [hw8]; exact news_of_new w7 (whCells X (.slice a7 X.length c7)) _
        have hb8 : Below w7.heap.size w7 w8 := by rw [hw8]; exact (Below.refl _ _).alloc (Nat.le_refl _) _
        have Ho8 := Lib.hid (ownsRow_of_heap Ho7.out fun g hg => hb8.block g (Ho7.out.lt g hg).2)
        have Hb8 := Lib.hid (Hb7.out.trans (hb8.mono Hb7.out.size))
        have Hd8 := Lib.hid (Hd7.out.trans (hb8.mono Hd7.out.size))
        have HT8 := Lib.hid (TInv.below HT7.out hb8)
        have Hcm8 := Lib.hid (Hcm7.out.of_below hb8)
        have Hn8 := Lib.hid hn8
        obtain ⟨s0, hs0, hs1, hs2, hs3⟩ := info_parts infoDS'
        have Hs0 := Lib.hid hs0
        have hlo8 : w5.heap.size ≤ w8.heap.size := by have := (Ho8.out.lt _ rfl); have h2 : w5.heap.size < w8.heap.size := this.2; omega
        clear hn8 hb8 hw8 Ho7 hs0
        go_wp2_with (at_builtin; (refine wpList_append_own_at _ rfl _ _ 38 rfl w5.heap.size 58 s0 (.agg #[.int .i64 0, .slice none 0 0, .int .i64 0, .bool false]) 4 48 Tryd.underlying38 Hs0.out hs1 hs2 hs3 rfl (by decide) (.slice (some ⟨w5.heap.size, 0, none⟩) 2 2) 2 (whCells V (.slice ba L bc)) rfl ?a1 ⟨w7.heap.size, 0, none⟩ 2 2 (whCells X (.slice a7 X.length c7)) rfl rfl ?a2 ?a3 ?a4 ?a5 ?a6 ?_))
        case a1 => exact Ho8.out
        case a2 => exact Hn8.out
        case a3 => intro u hu; simp [cmdCells, whCells] at hu; rcases hu with rfl | rfl | rfl | rfl | rfl | rfl | rfl | rfl <;> rfl
        case a4 => decide
        case a5 => decide
        case a6 => exact hlo8
        intro v9 w9 hown9 hgrow9 _ _
        obtain ⟨g9, c9, rfl, hc9, hm9, -, -⟩ := own_some hown9 (by decide)
        have hd9 : Below w5.heap.size w5 w9 := Hd8.out.grown hgrow9 hlo8 (fun q hq => (Ho8.out.lt q hq).1)
        have hcV : CmdV w9 (.write V) (.slice ba L bc) := by
          have h := (TInv.below HT5.out hd9).own
          rw [← HV.out] at h
          have := CmdV.write_own (by rw [← HL.out]; omega) h
          rwa [← HL.out] at this
        have hcX : CmdV w9 (.write X) (.slice a7 X.length c7) := cmdV_grown Hcm8.out hgrow9 fun q hq e => by
          have h1 := hlt7 q hq
          have h2 := Hd6.out.size
          injection e with e
          have e : w5.heap.size = q := e
          have h3 : w5.heap.size < w6.heap.size := h56
          omega
        have hsm9 : StepsMem w9 g9 0 (HD.loudCmds V X) [.slice ba L bc, .slice none 0 0, .slice a7 X.length c7, .slice none 0 0] := by
          refine dsteps_of_own (B := w5.heap.size) (n := 4) (cap := c9) rfl ?_ ?_
          · simpa [stepCells, HD.loudCmds, whCells] using hown9
          · intro i h1 h2
            match i, h1, h2 with
            | 0, _, _ => exact hcV
            | 1, _, _ => exact CmdV.plain rfl (by show 0 < _; decide)
            | 2, _, _ => exact hcX
            | 3, _, _ => exact CmdV.plain rfl (by show 0 < _; decide)
        rw [HV.out, HX.out] at hsm9
        have Hb9 := Lib.hid (Hb5.out.trans (hd9.mono Hb5.out.size))
        have HT9 := Lib.hid (TInv.below HT5.out hd9)
        have Hsm9 := Lib.hid hsm9
        clear hown9 hgrow9 hcV hcX hsm9 hd9 Hcm8 Hn8 Ho8
        go_wp2_with fail
        refine (decode_two w9 size (62 + k) (by omega) aN g9 c9 fs _ hsz ((HE.out.below Hb9.out).mono Hb9.out.size) hm9 hc9 Hsm9.out Hff.out hV24).mono ?_
        rintro e w10 ⟨g10, c10, rfl, hans, hb10⟩
        have hlen : (HD.drun (st0 size) (HD.loudCmds (HD.lits fs) (HD.intg 128 7 (62 + k)))).length = 4 := by rw [HD.drun_len]; rfl
        have hrd := hans.read 0 (Nat.zero_le _) (by rw [hlen]; decide) (drun_sum0 size _ (by rw [← HX.out]; show (HD.lits fs).length + (0 + (X.length + (0 + 0))) ≤ _; omega))
        rw [hlen, List.drop_zero, Nat.zero_mul] at hrd
        obtain ⟨oe, hoe⟩ : ∃ oe, oe = (HD.saddAll size [] fs)[k]? := ⟨_, rfl⟩
        have hlaw : HD.rd [] (HD.drun (st0 size) (HD.loudCmds (HD.lits fs) (HD.intg 128 7 (62 + k)))) = _ := HD.tab_law size k (by omega) fs Hff.out
        rw [hlaw, ← hoe] at hrd
        have Hrd := Lib.hid hrd
        have Hoe := Lib.hid hoe
        have Hb10 := Lib.hid (Hb9.out.trans (hb10.mono Hb9.out.size))
        have HT10 := Lib.hid (TInv.below HT9.out hb10)
        clear hans hlen hrd hoe hlaw hb10 Hsm9
        go_wp2_with fail
        refine Hrd.out.mono ?_
        rintro e w11 ⟨a11, c11, rfl, hown11, hb11⟩
        have hf11 := FSl.of_own hown11
        have Hb11 := Lib.hid (Hb10.out.trans (hb11.mono Hb10.out.size))
        have HT11 := Lib.hid (TInv.below HT10.out hb11)
        have hE22 : (HD.saddAll size [] fs).length ≤ 2 ^ 22 := by
          have := HD.saddAll_len size fs []
          rw [List.length_nil, ← Hnn.out] at this
          omega
        have hat := atTop_any w2.heap.size k w11 tv (HD.saddAll size [] fs) size HT11.out.tab hE22 (by omega)
        rw [← Hoe.out] at hat
        have Hat := Lib.hid hat
        have hwk2 : IntKind.i64.wrap (((62 + k : Nat) : Int)) = ((62 + k : Nat) : Int) := by rw [IntKind.wrap_i64]; omega
        have hlm : (fs.map HD.pfl).length = j := by rw [List.length_map, ← Hnn.out]
        clear hown11 hb11 hat hE22
        cases oe with
        | none =>
          clear hf11
          simp only [hlm, HD.code, HD.idx]
          rw [hwk2]
          go_wp2_with fail
          rw [show (62 : Int) + (k : Int) = ((62 + k : Nat) : Int) by omega]
          refine Hat.out.mono ?_
          rintro e w12 ⟨rfl, hb12⟩
          have Hb12 := Lib.hid (Hb11.out.trans (hb12.mono Hb11.out.size))
          clear hb12
          unfold atSpec
          go_wp2_with fail
          go_ret
          exact ⟨by simp, Hb12.out.alloc Hb12.out.size _⟩
        | some x =>
          simp only [List.length_append, List.length_singleton] at hf11
          obtain ⟨g11, o11, rfl, hc11, hfx⟩ := fsl_last hf11
          simp only [List.length_append, List.length_singleton, hlm, HD.code, HD.idx]
          rw [hlm] at hc11 hfx
          have Hfx := Lib.hid hfx
          clear hf11 hfx
          go_wp2_with fail
          rw [show (62 : Int) + (k : Int) = ((62 + k : Nat) : Int) by omega]
          refine Hat.out.mono ?_
          rintro e w12 ⟨rfl, hb12⟩
          have Hb12 := Lib.hid (Hb11.out.trans (hb12.mono Hb11.out.size))
          have Hfx12 := Lib.hid (Hfx.out.mono hb12)
          clear hb12 Hfx
          unfold atSpec
          go_wp2_with fail
          have hrA : Row (w12.alloc (.cells #[.string ⟨x.1.toArray⟩, .string ⟨x.2.toArray⟩, .bool false] 30)) w12.heap.size 3 _ := Row.of_cells w12 #[.string ⟨x.1.toArray⟩, .string ⟨x.2.toArray⟩, .bool false] 30 (by decide) 3 rfl
          have hbA : Below w12.heap.size w12 (w12.alloc (.cells #[.string ⟨x.1.toArray⟩, .string ⟨x.2.toArray⟩, .bool false] 30)) := (Below.refl _ _).alloc (Nat.le_refl _) _
          obtain ⟨W1, hW1⟩ : ∃ W1, W1 = w12.alloc (.cells #[.string ⟨x.1.toArray⟩, .string ⟨x.2.toArray⟩, .bool false] 30) := ⟨_, rfl⟩
          rw [← hW1] at hrA hbA ⊢
          clear hW1
          obtain ⟨W2, hW2⟩ : ∃ W2, W2 = W1.drew := ⟨_, rfl⟩
          have hS : ∀ w' : World, w'.heap[w12.heap.size]? = W1.heap[w12.heap.size]? → w'.cell? ⟨w12.heap.size, 0, none⟩ = some (.string ⟨x.1.toArray⟩) ∧ w'.cell? ⟨w12.heap.size, 1, none⟩ = some (.string ⟨x.2.toArray⟩) ∧ w'.cell? ⟨w12.heap.size, 2, none⟩ = some (.bool false) := fun w' e =>
            ⟨(Row.of_heap hrA e).cell' (i := 0) (by decide) rfl, (Row.of_heap hrA e).cell' (i := 1) (by decide) rfl, (Row.of_heap hrA e).cell' (i := 2) (by decide) rfl⟩
          have hb2 : Below w12.heap.size w12 W2 := by rw [hW2]; exact hbA.drew
          have hl2 : w12.heap.size < W2.heap.size := by rw [hW2]; exact hrA.lt
          have hS2 := hS (W2.alloc (.cells #[.string ⟨x.1.toArray⟩, .string ⟨x.2.toArray⟩, .bool false] 30)) ((Below.heap_alloc W2 _ _ hl2).trans (by rw [hW2]; rfl))
          have ho := own_new (w := W2) #[.string ⟨x.1.toArray⟩, .string ⟨x.2.toArray⟩, .bool false] 30 3 1 rfl (by decide)
          have hf2 : FSl (W2.alloc (.cells #[.string ⟨x.1.toArray⟩, .string ⟨x.2.toArray⟩, .bool false] 30)) (.slice (some ⟨W2.heap.size, 0, none⟩) 1 1) [⟨x.1, x.2, false⟩] := FSl.of_own (e := 30) ho
          have hb3 : Below w12.heap.size w12 (W2.alloc (.cells #[.string ⟨x.1.toArray⟩, .string ⟨x.2.toArray⟩, .bool false] 30)) := hb2.alloc hb2.size _
          have hf1 := Hfx12.out.mono hb3
          have HS := Lib.hid (hS W2 (by rw [hW2]; rfl))
          have HS2 := Lib.hid hS2
          have Hf1 := Lib.hid hf1
          have Hf2 := Lib.hid hf2
          have Hb13 := Lib.hid (Hb12.out.trans (hb3.mono Hb12.out.size))
          clear hS hbA hrA hS2 ho hf1 hf2 hb2 hb3 hl2
          refine wp_region_held_drew (S := (fun w' => w'.cell? ⟨w12.heap.size, 0, none⟩ = some (.string ⟨x.1.toArray⟩) ∧ w'.cell? ⟨w12.heap.size, 1, none⟩ = some (.string ⟨x.2.toArray⟩) ∧ w'.cell? ⟨w12.heap.size, 2, none⟩ = some (.bool false))) (by kernel_rfl) ((by rw [← hW2]; exact HS.out)) (fun hHeld => ?_)
          refine takeH 0 (v := ?_) rfl rfl (by kernel_rfl) (by kernel_rfl) (by kernel_rfl) (fun _ _ _ h => h) (Or.inl ⟨by rfl, ?_⟩) (by assumption) ?_
          rotate_left
          · (intro w hSw; (try dsimp only at hSw); go_simp <;> with_reducible rfl)
          simp only [List.setIfInBounds_toArray, List.set_cons_zero, List.set_cons_succ]
          refine takeH 1 (v := ?_) rfl rfl (by kernel_rfl) (by kernel_rfl) (by kernel_rfl) (fun _ _ _ h => h) (Or.inl ⟨by rfl, ?_⟩) (by assumption) ?_
          rotate_left
          · (intro w hSw; (try dsimp only at hSw); go_simp <;> with_reducible rfl)
          simp only [List.setIfInBounds_toArray, List.set_cons_zero, List.set_cons_succ]
          refine takeH 2 (v := ?_) rfl rfl (by kernel_rfl) (by kernel_rfl) (by kernel_rfl) (fun _ _ _ h => h) (Or.inl ⟨by rfl, ?_⟩) (by assumption) ?_
          rotate_left
          · (intro w hSw; (try dsimp only at hSw); go_simp <;> with_reducible rfl)
          simp only [List.setIfInBounds_toArray, List.set_cons_zero, List.set_cons_succ]
          refine takeH 3 (v := ?_) rfl rfl (by kernel_rfl) (by kernel_rfl) (by kernel_rfl) (fun _ _ _ h => h) (Or.inl ⟨by rfl, ?_⟩) (by assumption) ?_
          rotate_left
          · (intro w hSw; (try dsimp only at hSw); go_simp <;> with_reducible rfl)
          simp only [List.setIfInBounds_toArray, List.set_cons_zero, List.set_cons_succ]
          refine takeH 4 (v := ?_) rfl rfl (by kernel_rfl) (by kernel_rfl) (by kernel_rfl) (fun _ _ _ h => h) (Or.inl ⟨by rfl, ?_⟩) (by assumption) ?_
          rotate_left
          · (intro w hSw; (try dsimp only at hSw); go_simp <;> with_reducible rfl)
          simp only [List.setIfInBounds_toArray, List.set_cons_zero, List.set_cons_succ]
          refine takeH 5 (v := ?_) rfl rfl (by kernel_rfl) (by kernel_rfl) (by kernel_rfl) (fun _ _ _ h => h) (Or.inl ⟨by rfl, ?_⟩) (by assumption) ?_
          rotate_left
          · (intro w hSw; (try dsimp only at hSw); go_simp <;> with_reducible rfl)
          simp only [List.setIfInBounds_toArray, List.set_cons_zero, List.set_cons_succ]
          refine takeH 6 (v := ?_) rfl rfl (by kernel_rfl) (by kernel_rfl) (by kernel_rfl) (fun _ _ _ h => h) (Or.inl ⟨by rfl, ?_⟩) (by assumption) ?_
          rotate_left
          · (intro w hSw; (try dsimp only at hSw); go_simp <;> with_reducible rfl)
          simp only [List.setIfInBounds_toArray, List.set_cons_zero, List.set_cons_succ]
          refine takeH 7 (v := ?_) rfl rfl (by kernel_rfl) (by kernel_rfl) (by kernel_rfl) (fun _ _ _ h => h) (Or.inl ⟨by rfl, ?_⟩) (by assumption) ?_
          rotate_left
          · (intro w hSw; (try dsimp only at hSw); go_simp <;> with_reducible rfl)
          simp only [List.setIfInBounds_toArray, List.set_cons_zero, List.set_cons_succ]
          rw [← hW2]
          clear hW2
          refine wpAnyH_ready (rs := [8]) (by kernel_rfl) (by simp) ?_
          refine AllReadyH.cons rfl (fun K hK => ?_) AllReadyH.nil
          go_simp
          refine hK.out _ _ (by exact HS2.out) (fun hHeld => ?_)
          clear hK K
          refine wpAnyH_ready (rs := [9]) (by kernel_rfl) (by simp) ?_
          refine AllReadyH.cons rfl (fun K hK => ?_) AllReadyH.nil
          go_simp
          rw [if_neg (show ¬ c11 = j by omega)]
          refine (equal_any [⟨x.1, x.2, false⟩] [⟨x.1, x.2, false⟩] _ _ _ (by exact Hf1.out) (by exact Hf2.out) (by simp)).mono ?_
          rintro e w14 ⟨rfl, hb14⟩
          have he : decide (([⟨x.1, x.2, false⟩] : List HD.Fld) = [⟨x.1, x.2, false⟩]) = true := decide_eq_true rfl
          rw [he]
          have hup : ∀ (q : Addr) (u : Value), World.cell? (W2.alloc (.cells #[.string ⟨x.1.toArray⟩, .string ⟨x.2.toArray⟩, .bool false] 30)) q = some u → w14.cell? q = some u := fun q u h => (hb14.cell (World.block_lt_of_cell? _ _ h)).trans h
          have hS14 : w14.cell? ⟨w12.heap.size, 0, none⟩ = some (.string ⟨x.1.toArray⟩) ∧ w14.cell? ⟨w12.heap.size, 1, none⟩ = some (.string ⟨x.2.toArray⟩) ∧ w14.cell? ⟨w12.heap.size, 2, none⟩ = some (.bool false) := ⟨hup _ _ HS2.out.1, hup _ _ HS2.out.2.1, hup _ _ HS2.out.2.2⟩
          have Hb14 := Lib.hid (Hb13.out.trans (hb14.mono Hb13.out.size))
          clear he hb14 hup
          go_simp
          refine hK.out _ _ (by exact hS14) (fun hHeld => ?_)
          clear hK K hS14
          refine takeH 10 (v := ?_) rfl rfl (by kernel_rfl) (by kernel_rfl) (by kernel_rfl) (fun _ _ _ h => h) (Or.inl ⟨by rfl, ?_⟩) (by assumption) ?_
          rotate_left
          · (intro w hSw; (try dsimp only at hSw); go_simp <;> with_reducible rfl)
          simp only [List.setIfInBounds_toArray, List.set_cons_zero, List.set_cons_succ]
          refine takeH 11 (v := ?_) rfl rfl (by kernel_rfl) (by kernel_rfl) (by kernel_rfl) (fun _ _ _ h => h) (Or.inl ⟨by rfl, ?_⟩) (by assumption) ?_
          rotate_left
          · (intro w hSw; (try dsimp only at hSw); go_simp <;> with_reducible rfl)
          simp only [List.setIfInBounds_toArray, List.set_cons_zero, List.set_cons_succ]
          refine wpAnyH_done (by kernel_rfl) ?_ _
          clear hHeld
          go_wp2_with fail
          go_ret
          exact ⟨rfl, Hb14.out⟩
set_option maxHeartbeats 1000000 in
set_option maxRecDepth 100000 in
theorem walk (size : Int) (sa : Option Addr) (cap : Nat) (fs : List HD.Fld) (k : Int) (W : World) (hm : FSl W (.slice sa fs.length cap) fs) (hcap : fs.length ≤ cap) (hn : fs.length ≤ maxLen) (hml : ∀ f ∈ fs, f.name.length ≤ maxLen ∧ f.value.length ≤ maxLen) (aN : Addr) (hE : EnvO W.heap.size W aN aN aN) :
    Calls Tryd.prog 3 #[.int .i64 size, .slice sa fs.length cap, .int .i64 k] W fun e W' => e = .returned (.bool true) ∧ Below W.heap.size W W' := by
  by_cases h : (0 ≤ size ∧ size ≤ 2147483648) ∧ ¬ k < 0 ∧ ¬ 1048576 < k ∧ ¬ 1048576 < fs.length
  · obtain ⟨⟨h1, h2⟩, h3, h4, h5⟩ := h
    obtain ⟨m, rfl⟩ := Int.eq_ofNat_of_zero_le h1
    obtain ⟨q, rfl⟩ := Int.eq_ofNat_of_zero_le (show 0 ≤ k by omega)
    exact main m q sa cap fs W hm hcap hn hml aN hE (by omega) (by omega) (by omega)
  · have f3 := fun (w : World) (hb : Below W.heap.size W w) => fits3_any w sa cap fs (hm.mono hb) hn
    clear hm hcap hn hml hE
    obtain ⟨n, hnn⟩ : ∃ n, n = fs.length := ⟨_, rfl⟩
    rw [← hnn] at f3 h ⊢
    have F3 := Lib.hid f3
    clear f3 hnn
    by_cases h1 : 0 ≤ size ∧ size ≤ 2147483648
    · have d5 := decide_eq_true h1
      by_cases h2 : k < 0
      · have d6 := decide_eq_true h2
        clear h h1 h2
        go_enter Tryd.func3, Tryd.ntmps3
        go_wp2_with fail
        refine (F3.out _ (Below.refl _ _)).mono ?_
        rintro e w1 ⟨b, rfl, hb1, -⟩
        have Hb1 := Lib.hid hb1
        clear hb1
        cases b with
        | false =>
          go_wp2_with fail
          go_ret
          exact ⟨rfl, Hb1.out⟩
        | true =>
          go_wp2_with fail
          refine (isSize_any _ _).mono ?_
          rintro e w2 ⟨rfl, hw2⟩
          subst hw2
          rw [d5]
          clear d5
          go_wp2_with fail
          go_ret
          exact ⟨rfl, Hb1.out⟩
      · have d6 := decide_eq_false h2
        by_cases h3 : 1048576 < k
        · have d7 := decide_eq_true h3
          clear h h1 h2 h3
          go_enter Tryd.func3, Tryd.ntmps3
          go_wp2_with fail
          refine (F3.out _ (Below.refl _ _)).mono ?_
          rintro e w1 ⟨b, rfl, hb1, -⟩
          have Hb1 := Lib.hid hb1
          clear hb1
          cases b with
          | false =>
            go_wp2_with fail
            go_ret
            exact ⟨rfl, Hb1.out⟩
          | true =>
            go_wp2_with fail
            refine (isSize_any _ _).mono ?_
            rintro e w2 ⟨rfl, hw2⟩
            subst hw2
            rw [d5]
            clear d5
            go_wp2_with fail
            go_ret
            exact ⟨rfl, Hb1.out⟩
        · have d7 := decide_eq_false h3
          have h4 : 1048576 < n := by
            rcases Nat.lt_or_ge 1048576 n with h4 | h4
            · exact h4
            · exact absurd ⟨h1, h2, h3, by omega⟩ h
          have d8 : decide ((1048576 : Int) < (n : Int)) = true := decide_eq_true (by omega)
          clear h h1 h2 h3 h4
          go_enter Tryd.func3, Tryd.ntmps3
          go_wp2_with fail
          refine (F3.out _ (Below.refl _ _)).mono ?_
          rintro e w1 ⟨b, rfl, hb1, -⟩
          have Hb1 := Lib.hid hb1
          clear hb1
          cases b with
          | false =>
            go_wp2_with fail
            go_ret
            exact ⟨rfl, Hb1.out⟩
          | true =>
            go_wp2_with fail
            refine (isSize_any _ _).mono ?_
            rintro e w2 ⟨rfl, hw2⟩
            subst hw2
            rw [d5]
            clear d5
            go_wp2_with fail
            go_ret
            exact ⟨rfl, Hb1.out⟩
    · have d5 := decide_eq_false h1
      clear h h1
      go_enter Tryd.func3, Tryd.ntmps3
      go_wp2_with fail
      refine (F3.out _ (Below.refl _ _)).mono ?_
      rintro e w1 ⟨b, rfl, hb1, -⟩
      have Hb1 := Lib.hid hb1
      clear hb1
      cases b with
      | false =>
        go_wp2_with fail
        go_ret
        exact ⟨rfl, Hb1.out⟩
      | true =>
        go_wp2_with fail
        refine (isSize_any _ _).mono ?_
        rintro e w2 ⟨rfl, hw2⟩
        subst hw2
        rw [d5]
        clear d5
        go_wp2_with fail
        go_ret
        exact ⟨rfl, Hb1.out⟩
end Go.Proofs.YtmlnmllnlekcgaaDoor.FnDecodeTable
/-
  What the rows' lists give: the two tables of the Huffman code, as their contracts want them. No condition.
-/
namespace Go.Proofs.YtmlnmllnlekcgaaDoor
open Go.ChangeShapes Go.WideShapes Go.ChangeAt Go.RowKit

/-- A table's datum as values; a variable's cells laid. -/
def tabVals : DataW Unit → Array Value
  | .agg l => (l.map fun | .lit (.int k n) => Value.int k n | _ => .nilIface).toArray
  | _ => #[]
def laidTab (cs : Array Value) : Obj → Obj
  | .cells _ t frozen => .cells cs t frozen
  | o => o

theorem gLen : Tryd.prog.globalNamed "loop.example/pub-g03022/pub/hpack.huffmanCodeLen" = some 6 := by kernel_rfl
theorem gLenType : (Tryd.prog.globals[6]?).map (·.type) = some 143 := by kernel_rfl
theorem gCode : Tryd.prog.globalNamed "loop.example/pub-g03022/pub/hpack.huffmanCodes" = some 5 := by kernel_rfl
theorem gCodeType : (Tryd.prog.globals[5]?).map (·.type) = some 142 := by kernel_rfl
theorem cellsLen : Tryd.prog.cellsOf 143 = 256 := by kernel_rfl
theorem cellsCode : Tryd.prog.cellsOf 142 = 256 := by kernel_rfl
theorem cellsU8 : Tryd.prog.cellsOf 5 = 1 := by kernel_rfl
theorem cellsU32 : Tryd.prog.cellsOf 53 = 1 := by kernel_rfl
def lenInts : List Int := HP.lensL.map Int.ofNat
def codeInts : List Int := HP.codesL.map Int.ofNat
theorem lenInts_at : ∀ i, i < 256 → lenInts.getD i 0 = (HP.hlen i : Nat) := by decide +kernel
theorem codeInts_at : ∀ i, i < 256 → codeInts.getD i 0 = (HP.hcode i : Nat) := by decide +kernel
theorem lenInts_len : lenInts.length = 256 := by decide +kernel
theorem codeInts_len : codeInts.length = 256 := by decide +kernel

theorem lenTab_of_head {W : World} {r : List (String × DataW Unit)} (h : laidMet Tryd.prog (("loop.example/pub-g03022/pub/hpack.huffmanCodeLen", Lib.tabData .u8 lenInts) :: r) W) : LenTab W := fun i hi => by
  have h1 := Lib.tabIs_of_head gLen gLenType Tryd.underlying143 Tryd.underlying5 cellsU8 cellsLen h
  rw [h1.cell gLen i (by rw [lenInts_len]; exact hi), lenInts_at i hi]
theorem codeTab_of_head {W : World} {r : List (String × DataW Unit)} (h : laidMet Tryd.prog (("loop.example/pub-g03022/pub/hpack.huffmanCodes", Lib.tabData .u32 codeInts) :: r) W) : CodeTab W := fun i hi => by
  have h1 := Lib.tabIs_of_head gCode gCodeType Tryd.underlying142 Tryd.underlying53 cellsU32 cellsCode h
  rw [h1.cell gCode i (by rw [codeInts_len]; exact hi), codeInts_at i hi]
end Go.Proofs.YtmlnmllnlekcgaaDoor
/-
  What a row that lists the error of Huffman codes gives: the variable holds a pointer. No condition.
-/
namespace Go.Proofs.YtmlnmllnlekcgaaDoor
open Go.ChangeShapes Go.WideShapes Go.ChangeAt Go.RowKit

theorem gInv : Tryd.prog.globalNamed "loop.example/pub-g03022/pub/hpack.ErrInvalidHuffman" = some 3 := by kernel_rfl
theorem gInvType : (Tryd.prog.globals[3]?).map (·.type) = some 80 := by kernel_rfl
theorem star : "*errors.errorString" = "*" ++ "errors.errorString" := by kernel_rfl
theorem rowErr (u : TypeId) (h : Tryd.prog.typeName? 3 u = some "*errors.errorString") : u = 111 :=
  typeName_ptr_named (nm := "errors.errorString") (by rw [← star]; kernel_rfl) (by kernel_rfl) (by decide) u (by rw [← star]; exact h)
theorem cellsErr : Tryd.prog.cellsOf 113 = 1 := by kernel_rfl
theorem cellsStr : Tryd.prog.cellsOf 9 = 1 := by kernel_rfl
theorem gMore : Tryd.prog.globalNamed "loop.example/pub-g03022/pub/hpack.errNeedMore" = some 1 := by kernel_rfl
theorem gMoreType : (Tryd.prog.globals[1]?).map (·.type) = some 80 := by kernel_rfl
end Go.Proofs.YtmlnmllnlekcgaaDoor
/-
  What a row gives that leaves the tables and two errors open: errNeedMore alone. No condition.
-/
namespace Go.Proofs.YtmlnmllnlekcgaaDoor
open Go.ChangeShapes Go.WideShapes Go.ChangeAt Go.RowKit

theorem envO_of {W : World} (h : laidMetH Tryd.prog [("loop.example/pub-g03022/pub/hpack.errNeedMore", Rows.laid_loop_example_pub_g03022_pub_hpack_errNeedMore)] W) : ∃ aN, EnvO W.heap.size W aN aN aN := by
  obtain ⟨aN, s0, v0, c0, -, -⟩ := laid_sentinel h gMore gMoreType Tryd.underlying80 rowErr Tryd.underlying111 Tryd.underlying113 rfl rfl Tryd.underlying9 cellsErr cellsStr
  have eN : W.cell? ⟨1, 0, none⟩ = some (.iface 111 (.pointer (some aN))) := by simpa using World.var?_cell gMore v0 0
  have hb := World.block_lt_of_cell? W _ c0
  exact ⟨aN, fun t => absurd rfl t, fun t => absurd rfl t, fun t => absurd rfl t, eN, fun t => absurd rfl t, fun t => absurd rfl t, fun t => absurd rfl t, fun t => absurd rfl t, fun t => absurd rfl t, hb, hb, hb, fun t => absurd rfl t, fun t => absurd rfl t, fun t => absurd rfl t, World.block_lt_of_cell? W _ eN, fun t => absurd rfl t⟩
end Go.Proofs.YtmlnmllnlekcgaaDoor
