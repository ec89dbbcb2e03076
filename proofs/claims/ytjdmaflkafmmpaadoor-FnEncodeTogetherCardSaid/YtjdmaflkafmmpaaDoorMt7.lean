/-
  Texts of this seat, one behind the other: ETog. What each one shows stands at its head. No condition.
-/
import Derived.Test.YtjdmaflkafmmpaaDoorMt6
/-
  The walk of FnEncodeTogether.
-/
namespace Go.Proofs.YtjdmaflkafmmpaaDoor.FnEncodeTogether
open Go.ChangeShapes Go.WideShapes Go.ChangeAt Go.RowKit

theorem flds_get : ∀ (l : List HD.Fld) (i : Nat) (h : i < l.length) (r : Nat), r < 3 → (flds l)[i * 3 + r]? = (fCells l[i])[r]? := by
  intro l
  induction l with
  | nil => intro i h; simp at h
  | cons f l ih =>
    intro i h r hr
    have hf : flds (f :: l) = fCells f ++ flds l := rfl
    cases i with
    | zero => rw [hf, Nat.zero_mul, Nat.zero_add, List.getElem?_append_left (by simpa [fCells] using hr)]; rfl
    | succ i =>
      rw [hf, show (i + 1) * 3 + r = 3 + (i * 3 + r) by omega, List.getElem?_append_right (by simp [fCells]), show 3 + (i * 3 + r) - (fCells f).length = i * 3 + r by simp [fCells]]
      exact ih i (by simpa using h) r hr
set_option maxRecDepth 100000 in
theorem open_flds {H : Type} {enc : TypeId × Value → H} {W : World} {base : Nat} {v1 : Value} {d1 : DataW H} {p1 : List MemPlace} (hval : Value.okWide Tryd.prog W .any base 22 v1) (h1 : DataW.Trod enc Tryd.prog W 0 (fun _ => true) true 22 v1 d1 p1) :
    ∃ sa cap, ∃ fs : List HD.Fld, v1 = .slice sa fs.length cap ∧ FSl W (.slice sa fs.length cap) fs ∧ fs.length ≤ cap ∧ fs.length ≤ maxLen ∧ ∀ f ∈ fs, f.name.length ≤ maxLen ∧ f.value.length ≤ maxLen := by
  obtain ⟨a1, len, cap, rfl⟩ := okWide_slice Tryd.underlying22 hval
  obtain ⟨fuel, hf⟩ := h1
  rcases Go.Deep.open_slice Tryd.underlying22 hf with ⟨hcs, hx⟩ | ⟨a, len', cap', m, n, D, Pl, hcs, hb, hl, hm, hmm, hx, hi⟩
  · simp [Value.cells] at hcs
    obtain ⟨rfl, rfl, rfl⟩ := hcs
    exact ⟨none, 0, [], rfl, ⟨none, 0, rfl, Nat.le_refl _, fun h => absurd rfl h⟩, Nat.le_refl _, Nat.zero_le _, fun r hr => by simp at hr⟩
  · simp [Value.cells] at hcs
    obtain ⟨rfl, rfl, rfl⟩ := hcs
    simp only [if_true] at hmm
    rw [cells_fld] at hi
    obtain ⟨fs, hsl, hss⟩ := list_of (P := fun i (f : HD.Fld) => (∀ j v, (fCells f)[j]? = some v → W.cell? ((a.add (i * 3)).add j) = some v) ∧ f.name.length ≤ maxLen ∧ f.value.length ≤ maxLen) len (fun i hil => by
      obtain ⟨cs', hc, ht⟩ := hi i (by omega)
      obtain ⟨f, rfl, hn, hv⟩ := open_fld ht
      exact ⟨f, fun j v hv => cells_parts hc j v hv, hn, hv⟩)
    refine ⟨_, cap, fs, by rw [hsl], ⟨_, cap, rfl, by omega, fun hne => ?_⟩, by omega, by omega, fun r hr => ?_⟩
    · have hpos : 0 < fs.length := List.length_pos_iff.2 hne
      have h0 := (hss 0 hpos).1 0 _ rfl
      rw [Nat.zero_mul, add_zero_zero] at h0
      obtain ⟨g, o, rfl⟩ := spot_none h0
      refine ⟨g, o, rfl, fun j u hu => ?_⟩
      have hj : j < (flds fs).length := (List.getElem?_eq_some_iff.1 hu).1
      rw [flds_len] at hj
      have hi3 : j / 3 < fs.length := by omega
      have hj3 : j = j / 3 * 3 + j % 3 := by omega
      rw [hj3, flds_get fs (j / 3) hi3 (j % 3) (by omega)] at hu
      have := (hss (j / 3) hi3).1 (j % 3) u hu
      rw [Lib.addr_add, Lib.addr_add] at this
      rw [hj3]
      rw [Nat.add_assoc] at this
      exact this
    · obtain ⟨i, hi', rfl⟩ := List.getElem_of_mem hr
      exact (hss i hi').2
def stepF (f : HD.Fld) : StepI := ⟨0, f, 0⟩
theorem stepF_cmd (fs : List HD.Fld) : ((fs.map stepF).map StepI.r).map StepR.cmd = fs.map .field := by
  rw [List.map_map, List.map_map]
  rfl
theorem stepsI_of_own {w : World} {B : Nat} {a : Option Addr} {c : Nat} {fs : List HD.Fld} (h : w.ownsRow B 28 5 (.slice a fs.length c) fs.length (stepsC ((fs.map stepF).map StepI.r))) : EStepsI w a (fs.map stepF) ∧ fs.length ≤ c := by
  have hl : ((fs.map stepF).map StepI.r).length = fs.length := by simp
  rw [← hl] at h
  obtain ⟨h1, h2⟩ := steps_of_own h
  rw [hl] at h2
  refine ⟨fun hne => ?_, h2⟩
  obtain ⟨g, o, e, hc⟩ := h1 (fun e => hne (List.map_eq_nil_iff.1 e))
  refine ⟨g, o, e, fun i hi j v hv => hc i (by simpa using hi) j v ?_⟩
  simp only [List.getElem_map] at hv ⊢
  exact hv
def FitsEnds (w : World) (n : Nat) (e : Ending) (w' : World) : Prop := ∃ b : Bool, e = .returned (.bool b) ∧ Below w.heap.size w w' ∧ (b = true → n ≤ 2147483647)
set_option maxHeartbeats 1000000 in
set_option maxRecDepth 100000 in
theorem fits3_any (w : World) (a : Option Addr) (cap : Nat) (fs : List HD.Fld) (hm : FSl w (.slice a fs.length cap) fs) (hn : fs.length ≤ maxLen) :
    Calls Tryd.prog 6 #[.slice a fs.length cap] w (FitsEnds w fs.length) := by
  obtain ⟨a', c', e, hcap, hcell⟩ := hm
  injection e with e1 _ e2
  subst e1; subst e2
  unfold maxLen at hn
  obtain ⟨n, hnn⟩ : ∃ n, n = fs.length := ⟨_, rfl⟩
  rw [← hnn] at hcap hn ⊢
  have Hnn := Lib.hid hnn
  have Hcell := Lib.hid hcell
  clear hnn hcell
  by_cases hbig : 2147483647 < n
  · have hbI : (2147483647 : Int) < (n : Int) := by omega
    go_enter Tryd.func6, Tryd.ntmps6
    go_wp2_with fail
    go_ret
    exact ⟨_, rfl, Below.refl _ _, fun h => by cases h⟩
  · have hbI : ¬ (2147483647 : Int) < (n : Int) := by omega
    have d0 : decide ((2147483647 : Int) < (n : Int)) = false := decide_eq_false hbI
    go_enter Tryd.func6, Tryd.ntmps6
    go_wp2_with fail
    go_loopw [10] (fun iv wr => ∃ k : Nat, k ≤ n ∧ iv = .int .i64 (k : Nat) ∧ Below w.heap.size w wr) (fun iv _ => n - (intOf iv).toNat)
    case atStart => exact ⟨0, Nat.zero_le _, rfl, Below.refl _ _⟩
    case round =>
      obtain ⟨k, hk, rfl, hb⟩ := hrel
      rcases Nat.lt_or_ge k n with hlt | hge
      · have hkc : k < fs.length := by rw [← Hnn.out]; exact hlt
        have hkN : decide (k < n) = true := decide_eq_true hlt
        have hkI : (k : Int) < (n : Int) := by omega
        have hkcap : k < cap := by omega
        obtain ⟨g, o, rfl, hcl⟩ := Hcell.out (fun h => by rw [h] at hkc; simp at hkc)
        have hf := flds_at fs k hkc
        obtain ⟨f, hfe⟩ : ∃ f, f = fs[k] := ⟨_, rfl⟩
        rw [← hfe] at hf
        have up : ∀ j u, (flds fs)[j]? = some u → wr.cell? ⟨g, o + j, none⟩ = some u := fun j u hu => (hb.cell (World.block_lt_of_cell? _ _ (hcl j u hu))).trans (hcl j u hu)
        have q0 : wr.cell? ⟨g, o + k * 3, none⟩ = some (.string ⟨f.name.toArray⟩) := up _ _ hf.1
        have q1 : wr.cell? ⟨g, o + k * 3 + 1, none⟩ = some (.string ⟨f.value.toArray⟩) := up _ _ hf.2.1
        have q2 : wr.cell? ⟨g, o + k * 3 + 2, none⟩ = some (.bool f.sens) := up _ _ hf.2.2
        have Hb := Lib.hid hb
        have hsz := hb.size
        clear hb hcl hf hfe up
        go_wp2_with fail
        refine (fits1_any f _).mono ?_
        rintro e w1 ⟨b, rfl, hb1⟩
        have Hb1 : Hid (Below w.heap.size w w1) := Lib.hid ((Hb.out.alloc hsz _).trans (hb1.mono (by simp; omega)))
        clear hb1
        cases b
        · go_wp2_with fail
          go_ret
          exact ⟨_, rfl, Hb1.out, fun h => by cases h⟩
        · go_wp2_with fail
          exact ⟨⟨k + 1, hlt, by go_num, Hb1.out⟩, by simp [intOf]; omega⟩
      · obtain rfl : k = n := Nat.le_antisymm hk hge
        go_wp2_with fail
        go_ret
        exact ⟨_, rfl, hb, fun _ => by omega⟩
theorem full_srcE {w : World} {v : HD.Bs} {sa : Option Addr} {cap : Nat} (hl : v.length < 2 ^ 40) (h : SrcAny sa cap v w) : CmdV w (.full v) (.slice sa v.length cap) := by
  refine ⟨hl, by simp [sizeOfC], ?_⟩
  rcases h with ⟨rfl, rfl, rfl⟩ | ⟨a, rfl, hb⟩
  · exact Or.inl ⟨rfl, rfl⟩
  · exact Or.inr ⟨a, cap, rfl, hb, rfl⟩
theorem decode_fullE (w : World) (size : Nat) (aI aN aL : Addr) (gs : Nat) (v : HD.Bs) (b : Value) (hs : size ≤ 2 ^ 31) (hE : Env w.heap.size w aI aN aL) (hm : StepsMem w gs 0 [.full v] [b]) (hv : v.length ≤ 2 ^ 24) :
    Calls Tryd.prog 9 #[.int .i64 (size : Nat), .slice (some ⟨gs, 0, none⟩) 1 1] w fun e w' => ∃ g c, e = .returned (.slice (some ⟨g, 0, none⟩) 1 c) ∧ AnsMem w' g c [(HD.dstep (st0 size) (.full v)).2] ∧ Below w.heap.size w w' := by
  refine (run_any w size aI aN aL gs 0 1 [.full v] [b] hs hE hm (by decide) (Nat.le_refl 1) (by show 1 ≤ 2 ^ 30; decide) ⟨cmdOk_full (emOk_impl _ _ (Nat.le_refl _)) (by show ([] ++ v).length ≤ _; rw [List.nil_append]; omega), trivial⟩ (by show v.length + 0 ≤ _; omega)).mono ?_
  intro e w' h
  obtain ⟨g, c, rfl, h1, h2⟩ := ans_of_run h (by show 0 < 1; decide)
  exact ⟨g, c, rfl, h1, h2⟩
theorem srcAny_of_own {w : World} {B cap : Nat} {sa : Option Addr} {v : HD.Bs} (h : w.ownsRow B 5 1 (.slice sa v.length cap) v.length (Lib.byteCells v)) : SrcAny sa cap v w := by
  rcases h.2 with ⟨e, h0⟩ | ⟨g, c, cur, e, -⟩
  · injection e with e1 e2 e3
    exact Or.inl ⟨e1, e3, List.eq_nil_of_length_eq_zero h0⟩
  · injection e with e1 e2 e3
    subst e1
    exact Or.inr ⟨_, rfl, fun j u hu => by have := h.cells (g := g) rfl j u hu; exact this⟩
theorem srcAny_below {sa : Option Addr} {cap : Nat} {v : List UInt8} {w w' : World} (h : SrcAny sa cap v w) (hb : Below w.heap.size w w') : SrcAny sa cap v w' :=
  h.imp id fun ⟨a, e, hc⟩ => ⟨a, e, fun q u hu => (hb.cell (World.block_lt_of_cell? _ _ (hc q u hu))).trans (hc q u hu)⟩
def pre (A : List HD.EAns) (k : Nat) : HD.Bs := ((A.take k).map (·.bytes)).flatten
theorem pre_le (A : List HD.EAns) (k : Nat) : (pre A k).length ≤ ((A.map (·.bytes)).flatten).length := by
  have : (A.map (·.bytes)).flatten = pre A k ++ ((A.drop k).map (·.bytes)).flatten := by
    unfold pre
    rw [← List.flatten_append, ← List.map_append, List.take_append_drop]
  rw [this]; simp
theorem pre_succ (A : List HD.EAns) (k : Nat) (a : HD.EAns) (h : A[k]? = some a) : pre A (k + 1) = pre A k ++ a.bytes := by
  obtain ⟨hk, rfl⟩ := List.getElem?_eq_some_iff.1 h
  have : A.take (k + 1) = A.take k ++ [A[k]] := (List.take_append_getElem hk).symm
  unfold pre
  rw [this, List.map_append, List.flatten_append]
  congr 1
  show A[k].bytes ++ [] = _
  rw [List.append_nil]
theorem pre_all (A : List HD.EAns) (k : Nat) (h : A.length = k) : pre A k = (A.map (·.bytes)).flatten := by
  unfold pre
  rw [List.take_of_length_le (by omega)]
theorem sum16 (fs : List HD.Fld) : (fs.map fun f => 16 + f.name.length + f.value.length).sum = 16 * fs.length + ((fs.map stepF).map fun r => r.fld.name.length + r.fld.value.length).sum := by
  induction fs with
  | nil => rfl
  | cons f fs ih =>
    simp only [List.map_cons, List.sum_cons, List.length_cons] at ih ⊢
    rw [ih]
    show _ = _ + ((f.name.length + f.value.length) + _)
    omega
theorem few_fs {fs : List HD.Fld} (h : FewOk (fs.map stepF)) : (∀ f ∈ fs, f.name.length + f.value.length ≤ 2 ^ 20) ∧ fs.length ≤ 1048576 ∧ (fs.map fun f => 16 + f.name.length + f.value.length).sum ≤ 2 ^ 24 := by
  refine ⟨fun f hf => (h.1 (stepF f) (List.mem_map_of_mem hf)).1, ?_, ?_⟩
  · have := h.2; rw [List.length_map] at this; omega
  · have := h.2; rw [List.length_map] at this; rw [sum16]; omega
/-- What stands in memory when the loop over the answers comes round. -/
structure CatInv (B0 : Nat) (w2 w3 wr : World) (bv : Value) (p : HD.Bs) : Prop where
  own : wr.ownsRow B0 5 1 bv p.length (Lib.byteCells p)
  wh : ∃ q, bv.ownBlock = some q ∧ (q = B0 ∨ w3.heap.size ≤ q)
  fr : ∀ q, q < w3.heap.size → q ≠ B0 → wr.heap[q]? = w3.heap[q]?
  sz : w3.heap.size ≤ wr.heap.size
  bl : Below B0 w2 wr
theorem CatInv.alloc {B0 : Nat} {w2 w3 wr : World} {bv : Value} {p : HD.Bs} (h : CatInv B0 w2 w3 wr bv p) (h0 : B0 ≤ wr.heap.size) (b : Obj) : CatInv B0 w2 w3 (wr.alloc b) bv p :=
  ⟨h.own.alloc _, h.wh, fun q h1 h2 => by rw [heap_alloc_old _ _ (Nat.lt_of_lt_of_le h1 h.sz)]; exact h.fr q h1 h2, by have := h.sz; simp; omega, h.bl.alloc h0 _⟩
set_option maxHeartbeats 4000000 in
set_option maxRecDepth 100000 in
theorem walk (sa : Option Addr) (cap : Nat) (fs : List HD.Fld) (W : World) (hm : FSl W (.slice sa fs.length cap) fs) (hcap : fs.length ≤ cap) (hn : fs.length ≤ maxLen) (hml : ∀ f ∈ fs, f.name.length ≤ maxLen ∧ f.value.length ≤ maxLen) (aI aN aL : Addr) (hE : Env W.heap.size W aI aN aL) :
    Calls Tryd.prog 3 #[.slice sa fs.length cap] W fun e W' => e = .returned (.bool true) ∧ Below W.heap.size W W' := by
  obtain ⟨n, hnn⟩ : ∃ n, n = fs.length := ⟨_, rfl⟩
  have hcap' : n ≤ cap := by omega
  have hnl : n ≤ 9223372036854775807 := by unfold maxLen at hn; omega
  obtain ⟨i0, hi, hz0, hz1, hzb⟩ := info_parts infoStep
  obtain ⟨j0, hj, hy0, hy1, hyb⟩ := info_parts infoU8
  have Hi := Lib.hid hi
  have Hj := Lib.hid hj
  have Hcap := Lib.hid hcap
  have Hn := Lib.hid hn
  have Hml := Lib.hid hml
  have Hm := Lib.hid hm
  have HE := Lib.hid hE
  have Hnn := Lib.hid hnn
  have f3 := fun (w : World) (hb : Below W.heap.size W w) => fits3_any w sa cap fs (hm.mono hb) hn
  rw [← hnn] at f3 ⊢
  have F3 := Lib.hid f3
  clear hi hj hcap hn hml hm hE hnn f3
  go_enter Tryd.func3, Tryd.ntmps3
  go_wp2_with fail
  refine (F3.out _ (Below.refl _ _)).mono ?_
  rintro e w1 ⟨b, rfl, hb1, hn31⟩
  have Hb1 := Lib.hid hb1
  clear hb1
  cases b with
  | false =>
    go_wp2_with fail
    go_ret
    exact ⟨rfl, Hb1.out⟩
  | true =>
    have hn31 := hn31 rfl
    obtain ⟨R, hR⟩ : ∃ R, R = (fs.map stepF).map StepI.r := ⟨_, rfl⟩
    have hRl : R.length = n := by rw [hR, List.length_map, List.length_map, Hnn.out]
    have HR := Lib.hid hR
    have HRl := Lib.hid hRl
    have Hsz1 := Lib.hid Hb1.out.size
    clear hR hRl
    go_wp2_with fail
    go_loopw [3, 16] (fun ov iv wr => ∃ k : Nat, k ≤ n ∧ iv = .int .i64 (k : Nat) ∧ wr.ownsRow w1.heap.size 28 5 ov k (stepsC (R.take k)) ∧ Below w1.heap.size w1 wr) (fun _ iv _ => n - (intOf iv).toNat)
    case atStart => exact ⟨0, Nat.zero_le _, rfl, empty_row w1 28 5, (Below.refl _ _).alloc (Nat.le_refl _) _⟩
    case round =>
      obtain ⟨k, hk, rfl, hown, hb⟩ := hrel
      obtain ⟨oa, oc, rfl⟩ := own_form hown
      rcases Nat.lt_or_ge k n with hlt | hge
      · have hkc : k < fs.length := by rw [← Hnn.out]; exact hlt
        have hkN : decide (k < n) = true := decide_eq_true hlt
        have hkI : (k : Int) < (n : Int) := by omega
        have hkcap : k < cap := by omega
        obtain ⟨a', c', e, -, hcell⟩ := Hm.out
        injection e with e1 _ e2
        subst e1; subst e2
        obtain ⟨g, o, rfl, hcl⟩ := hcell (fun h => by rw [h] at hkc; simp at hkc)
        have hf := flds_at fs k hkc
        have hRk : stepsC (R.take (k + 1)) = stepsC (R.take k) ++ [.int .i64 0, .string ⟨fs[k].name.toArray⟩, .string ⟨fs[k].value.toArray⟩, .bool fs[k].sens, .int .i64 0] := by
          have hkR : k < R.length := by rw [HRl.out]; exact hlt
          rw [show R.take (k + 1) = R.take k ++ [R[k]] from (List.take_append_getElem hkR).symm, stepsC_append]
          congr 1
          have : R[k] = ⟨0, fs[k], 0⟩ := by simp only [HR.out, List.getElem_map]; rfl
          rw [this]; rfl
        obtain ⟨f, hfe⟩ : ∃ f, f = fs[k] := ⟨_, rfl⟩
        rw [← hfe] at hf hRk
        have hbW : Below W.heap.size W wr := Hb1.out.trans (hb.mono Hb1.out.size)
        have up : ∀ j u, (flds fs)[j]? = some u → wr.cell? ⟨g, o + j, none⟩ = some u := fun j u hu => (hbW.cell (World.block_lt_of_cell? _ _ (hcl j u hu))).trans (hcl j u hu)
        have q0 : wr.cell? ⟨g, o + k * 3, none⟩ = some (.string ⟨f.name.toArray⟩) := up _ _ hf.1
        have q1 : wr.cell? ⟨g, o + k * 3 + 1, none⟩ = some (.string ⟨f.value.toArray⟩) := up _ _ hf.2.1
        have q2 : wr.cell? ⟨g, o + k * 3 + 2, none⟩ = some (.bool f.sens) := up _ _ hf.2.2
        have hsz := hb.size
        have Hb := Lib.hid hb
        have Hown := Lib.hid hown
        have HRk := Lib.hid hRk
        have ha2 := news_of_new (wr.alloc (.cells #[.string ⟨f.name.toArray⟩, .string ⟨f.value.toArray⟩, .bool f.sens] 26)) [.int .i64 0, .string ⟨f.name.toArray⟩, .string ⟨f.value.toArray⟩, .bool f.sens, .int .i64 0] 28
        rw [show (wr.alloc (.cells #[.string ⟨f.name.toArray⟩, .string ⟨f.value.toArray⟩, .bool f.sens] 26)).heap.size = wr.heap.size + 1 by simp] at ha2
        have Ha2 := Lib.hid ha2
        clear hcell hcl up hf hfe hbW hRk hb hown ha2
        go_wp2_with (at_builtin; go_must (refine wpList_append_own_at _ rfl _ _ 24 rfl w1.heap.size 28 i0 (.agg #[.int .i64 0, .string ByteArray.empty, .string ByteArray.empty, .bool false, .int .i64 0]) 5 56 Tryd.underlying24 Hi.out hz0 hz1 hzb rfl (by decide) (.slice oa k oc) k (stepsC (R.take k)) rfl ((Hown.out.alloc _).alloc _) ⟨wr.heap.size + 1, 0, none⟩ 1 1 [.int .i64 0, .string ⟨f.name.toArray⟩, .string ⟨f.value.toArray⟩, .bool f.sens, .int .i64 0] rfl rfl Ha2.out (by simp [Value.oneCell']) (by unfold maxLen; omega) (by omega) (by simp; omega) ?_); intro v4 w4 hown4 hgrow4 _ _)
        refine ⟨⟨k + 1, hlt, by go_num, ?_, ?_⟩, by simp [intOf]; omega⟩
        · rw [HRk.out]
          exact hown4
        · exact ((Hb.out.alloc hsz _).alloc (by simp; omega) _).grown hgrow4 (by simp; omega) (fun q hq => (Hown.out.lt q hq).1)
      · obtain rfl : k = n := Nat.le_antisymm hk hge
        have e1 : R.take k = R := by rw [← HRl.out]; exact List.take_length
        rw [e1] at hown
        rw [Hnn.out, HR.out] at hown
        obtain ⟨hso, hoc⟩ := stepsI_of_own hown
        have hbW : Below W.heap.size W wr := Hb1.out.trans (hb.mono Hb1.out.size)
        have hl0 : (fs.map stepF).length = fs.length := List.length_map _
        have hfew := few_any wr oa oc (fs.map stepF) hso (by rw [hl0]; exact hoc) (by rw [hl0]; exact Hn.out) (by
          intro r hr
          obtain ⟨f, hf, rfl⟩ := List.mem_map.1 hr
          exact Hml.out f hf)
        rw [hl0, ← Hnn.out] at hfew
        rw [← Hnn.out] at hoc
        have HbW := Lib.hid hbW
        have Hso := Lib.hid hso
        have Hoc := Lib.hid hoc
        have Hfew := Lib.hid hfew
        clear e1 hown hso hoc hbW hl0 hfew hb
        go_wp2_with fail
        refine Hfew.out.mono ?_
        rintro e w2 ⟨b, rfl, hb2, hfe⟩
        have Hb2 := Lib.hid (HbW.out.trans (hb2.mono HbW.out.size))
        have Hso2 := Lib.hid (Hso.out.mono hb2)
        clear hb2
        cases b with
        | false =>
          go_wp2_with fail
          go_ret
          exact ⟨rfl, Hb2.out⟩
        | true =>
          have hfe := hfe rfl
          obtain ⟨hfl, hn20, hf24⟩ := few_fs hfe
          rw [← Hnn.out] at hn20
          have Hfe := Lib.hid hfe
          have Hfl := Lib.hid hfl
          have Hf24 := Lib.hid hf24
          clear hfe hfl hf24
          go_wp2_with fail
          have hb3 : Below w2.heap.size w2 (w2.alloc (.cells #[] 5)) := (Below.refl _ _).alloc (Nat.le_refl _) _
          have hs3 : (w2.alloc (.cells #[] 5)).heap.size = w2.heap.size + 1 := by simp
          have hg3 : (w2.alloc (.cells #[] 5)).heap[w2.heap.size]? = some (.cells #[] 5 (0, 0)) := heap_alloc_new w2 _
          generalize w2.alloc (.cells #[] 5) = w3 at hb3 hs3 hg3 ⊢
          have hbW3 : Below W.heap.size W w3 := Hb2.out.trans (hb3.mono Hb2.out.size)
          have hrun := encRun_any w3 oa oc R (by rw [HR.out]; exact (Hso2.out.mono hb3).steps Hfe.out) (by rw [HRl.out]; exact Hoc.out) (by rw [HRl.out]; omega) (by rw [HR.out]; exact Hfe.out.fine) ⟨Nat.lt_of_lt_of_le (LenTab.lt HE.out.len) hbW3.size, Nat.lt_of_lt_of_le (CodeTab.lt HE.out.code) hbW3.size⟩ (HE.out.len.below hbW3 (LenTab.lt HE.out.len)) (HE.out.code.below hbW3 (CodeTab.lt HE.out.code))
          rw [HRl.out] at hrun
          have Hrun := Lib.hid hrun
          have Hb3 := Lib.hid hb3
          have HbW3 := Lib.hid hbW3
          have Hg3 := Lib.hid hg3
          have Hs3 := Lib.hid hs3
          clear hrun hb3 hbW3 hg3 hs3
          go_wp2_with fail
          refine Hrun.out.mono ?_
          rintro e w4 ⟨ov, vs, X, A, rfl, hown, hA, hat, hX, -, hb4⟩
          rw [List.length_map, HRl.out] at hown
          obtain ⟨la, lc, rfl⟩ := own_form hown
          have hAl : A.length = k := by have := hA.len; rw [List.length_map, HRl.out] at this; exact this
          rw [HR.out, stepF_cmd] at hA
          have hone : ∀ (i : Nat) (a : HD.EAns), A[i]? = some a → a.bytes ≠ [] := by
            intro i a ha
            have hi : i < fs.length := by rw [← Hnn.out, ← hAl]; exact (List.getElem?_eq_some_iff.1 ha).1
            rcases HD.one_run _ _ _ hA i (.field fs[i]) a (by rw [List.getElem?_map, List.getElem?_eq_getElem hi]; rfl) ha with ⟨f, -, -, h3⟩ | ⟨h2, -⟩
            · exact h3
            · exact absurd rfl (h2 fs[i])
          have hlen := Nat.le_trans (HD.bytes_le _ _ _ hA rfl Hfl.out) Hf24.out
          have hfull := HD.full_back fs A hA Hfl.out
          have hcat : CatInv w2.heap.size w2 w4 w4 (.slice (some ⟨w2.heap.size, 0, none⟩) 0 0) [] := by
            refine ⟨⟨by simp [Lib.byteCells], Or.inr ⟨w2.heap.size, 0, #[], rfl, Nat.le_refl _, ?_, Nat.le_refl _, Nat.zero_le _, by simp, by simp [Lib.byteCells]⟩⟩, ⟨_, rfl, Or.inl rfl⟩, fun _ _ _ => rfl, Nat.le_refl _, ?_⟩
            · rw [hb4.block _ (by rw [Hs3.out]; omega)]; exact Hg3.out
            · exact Hb3.out.trans (hb4.mono (by rw [Hs3.out]; omega))
          have hX' : ∀ g, X g → g < w4.heap.size ∧ g ≠ w2.heap.size := fun g hg => by
            have := hX g hg; rw [Hs3.out] at this; exact ⟨this.1, by omega⟩
          have hsz4 : w3.heap.size ≤ w4.heap.size := hb4.size
          rw [Hs3.out] at hown hsz4
          have Hown := Lib.hid hown
          have HAl := Lib.hid hAl
          have Hat := Lib.hid hat
          have Hone := Lib.hid hone
          have Hlen := Lib.hid hlen
          have Hfull := Lib.hid hfull
          have Hcat := Lib.hid hcat
          have HX := Lib.hid hX'
          clear hown hAl hA hat hX hb4 hone hlen hfull hcat hX' Hrun
          go_wp2_with fail
          go_loopw [6, 33] (fun bv iv wr => ∃ j : Nat, j ≤ k ∧ iv = .int .i64 (j : Nat) ∧ CatInv w2.heap.size w2 w4 wr bv (pre A j)) (fun _ iv _ => k - (intOf iv).toNat)
          case atStart => exact ⟨0, Nat.zero_le _, rfl, Hcat.out⟩
          case round =>
            obtain ⟨j, hj, rfl, hc⟩ := hrel
            obtain ⟨ba, bc, rfl⟩ := own_form hc.own
            have hlp := Nat.le_trans (pre_le A j) Hlen.out
            rcases Nat.lt_or_ge j k with hlt | hge2
            · have hjN : decide (j < k) = true := decide_eq_true hlt
              have hjI : (j : Int) < (k : Int) := by omega
              have hjA : j < A.length := by rw [HAl.out]; exact hlt
              obtain ⟨an, han⟩ : ∃ a, A[j]? = some a := ⟨_, List.getElem?_eq_getElem hjA⟩
              obtain ⟨bv, v0, v1, v2, v3, hbr⟩ := Hat.out j an han
              have hne := Hone.out j an han
              have hps := pre_succ A j an han
              have hlp2 := Nat.le_trans (pre_le A (j + 1)) Hlen.out
              rw [hps, List.length_append] at hlp2
              obtain ⟨gb, cb, rfl, hXg, hcb, hcm, hby⟩ : ∃ g cap, bv = .slice (some ⟨g, 0, none⟩) an.bytes.length cap ∧ X g ∧ an.bytes.length ≤ cap ∧ cap ≤ maxLen ∧ ∀ j u, (Lib.byteCells an.bytes)[j]? = some u → w4.cell? ⟨g, j, none⟩ = some u := by
                rcases hbr with ⟨-, h⟩ | h
                · exact absurd h hne
                · exact h
              obtain ⟨go, hgo, hgl, hoc'⟩ : ∃ go, la = some ⟨go, 0, none⟩ ∧ w2.heap.size + 1 ≤ go ∧ k ≤ lc := by
                rcases Hown.out.2 with ⟨-, h0⟩ | ⟨g', cap', cur, e, hB, -, h1, -⟩
                · omega
                · injection e with e1 e2 e3
                  exact ⟨g', e1, hB, by omega⟩
              subst hgo
              have up : ∀ q u, w4.cell? q = some u → q.block ≠ w2.heap.size → wr.cell? q = some u := fun q u hu hq => (World.cell?_of_block (a := q) (hc.fr q.block (World.block_lt_of_cell? _ _ hu) hq)).trans hu
              have ow : ∀ i v, vs[i]? = some v → wr.cell? ⟨go, i, none⟩ = some v := fun i v hv => by
                have h1 := Hown.out.cells (g := go) rfl i v hv
                rw [Lib.addr_add, Nat.zero_add] at h1
                exact up ⟨go, i, none⟩ v h1 (by show go ≠ _; omega)
              have p0 := ow _ _ v0
              have p1 := ow _ _ v1
              have p2 := ow _ _ v2
              have p3 := ow _ _ v3
              have hbx : ∀ i u, (Lib.byteCells an.bytes)[i]? = some u → wr.cell? ⟨gb, i, none⟩ = some u := fun i u hu => up ⟨gb, i, none⟩ u (hby i u hu) (HX.out gb hXg).2
              obtain ⟨L, hL⟩ : ∃ L, L = an.bytes.length := ⟨_, rfl⟩
              obtain ⟨M, hM⟩ : ∃ M, M = (pre A j).length := ⟨_, rfl⟩
              obtain ⟨wn, hwn⟩ : ∃ x, x = an.writes := ⟨_, rfl⟩
              obtain ⟨zn, hzn⟩ : ∃ x, x = an.size := ⟨_, rfl⟩
              rw [← hL] at p0 hlp2 hcb
              rw [← hM] at hlp2
              rw [← hwn] at p1
              rw [← hzn] at p2
              have hjlc : j < lc := by omega
              have hs0 := hc.sz
              have hown0 := hc.own
              rw [← hM] at hown0 ⊢
              have hnl2 : (Lib.byteCells an.bytes).length = L * 1 := by rw [byteCells_len, Nat.mul_one, hL]
              have hcx := hc.alloc (by omega) (.cells #[.slice (some ⟨gb, 0, none⟩) L cb, .int .i64 (wn : Nat), .int .i64 (zn : Nat), .int .i64 0] 34)
              have hnew : ∀ i u, (Lib.byteCells an.bytes)[i]? = some u → (wr.alloc (.cells #[.slice (some ⟨gb, 0, none⟩) L cb, .int .i64 (wn : Nat), .int .i64 (zn : Nat), .int .i64 0] 34)).cell? ((⟨gb, 0, none⟩ : Addr).add i) = some u := fun i u hu => by
                rw [Lib.addr_add, Nat.zero_add]
                have h1 := hbx i u hu
                exact (World.cell?_of_block (a := ⟨gb, i, none⟩) (heap_alloc_old _ _ (World.block_lt_of_cell? wr ⟨gb, i, none⟩ h1))).trans h1
              have Hown0 := Lib.hid (hown0.alloc (.cells #[.slice (some ⟨gb, 0, none⟩) L cb, .int .i64 (wn : Nat), .int .i64 (zn : Nat), .int .i64 0] 34))
              have Hcx := Lib.hid hcx
              have Hnew := Lib.hid hnew
              have Hnl := Lib.hid hnl2
              have Hps := Lib.hid hps
              have HL := Lib.hid hL
              have HM := Lib.hid hM
              clear han hjA v0 v1 v2 v3 hbr hne hps hXg hby hc up ow hbx hL hM hwn hzn hown0 hnl2 hcx hnew hgl hoc' hcm hlp
              go_wp2_with (at_builtin; go_must (refine wpList_append_own_at _ rfl _ _ 30 rfl w2.heap.size 5 j0 (.int .u8 0) 1 1 Tryd.underlying30 Hj.out hy0 hy1 hyb rfl (by decide) (.slice ba M bc) M (Lib.byteCells (pre A j)) rfl Hown0.out ⟨gb, 0, none⟩ L cb (Lib.byteCells an.bytes) rfl Hnl.out Hnew.out (Lib.byteCells_one _) (by unfold maxLen; omega) (by omega) (by simp; omega) ?_); intro v4 w5 hown4 hgrow4 _ hat4)
              refine ⟨⟨j + 1, hlt, by go_num, ?_⟩, by simp [intOf]; omega⟩
              have hcx := Hcx.out
              rw [← HM.out] at hcx
              rw [Hps.out]
              refine ⟨?_, ?_, fun q h1 h2 => ?_, ?_, ?_⟩
              · rw [byteCells_append, List.length_append, ← HM.out, ← HL.out]; exact hown4
              · rcases hat4 with h | h
                · rw [h]; exact hcx.wh
                · exact ⟨_, h, Or.inr hcx.sz⟩
              · refine (hgrow4.block q (Nat.lt_of_lt_of_le h1 hcx.sz) (fun e => ?_)).trans (hcx.fr q h1 h2)
                obtain ⟨q', h3, h4⟩ := hcx.wh
                rw [h3] at e
                injection e with e
                omega
              · exact Nat.le_trans hcx.sz hgrow4.size
              · refine hcx.bl.grown hgrow4 (by simp; omega) (fun q hq => ?_)
                obtain ⟨q', h3, h4⟩ := hcx.wh
                rw [h3] at hq
                injection hq with e
                omega
            · obtain rfl : j = k := Nat.le_antisymm hj hge2
              have hpa := pre_all A j HAl.out
              have hown5 := hc.own
              have hs0 := hc.sz
              have hbl := hc.bl
              rw [hpa] at hown5 hlp ⊢
              obtain ⟨V, hV⟩ : ∃ V, V = (A.map (·.bytes)).flatten := ⟨_, rfl⟩
              rw [← hV] at hown5 hlp ⊢
              have hfb := Hfull.out
              rw [← hV] at hfb
              have hsrc := srcAny_of_own hown5
              have HbX := Lib.hid (Hb2.out.trans (hbl.mono Hb2.out.size))
              have Hsrc := Lib.hid hsrc
              have Hfb := Lib.hid hfb
              clear hpa hown5 hbl hV hfb hsrc hc Hown Hat Hone Hlen Hfull Hcat HX
              go_wp2_with fail
              have hst : StepsMem (wr.alloc (.cells #[.int .i64 2, .slice ba V.length bc, .int .i64 0, .bool false] 38)) wr.heap.size 0 [.full V] [.slice ba V.length bc] := by
                refine steps_of_cells rfl (fun j u hu => ?_) ?_
                · have := news_of_new wr (stepCells [.full V] [.slice ba V.length bc]) 38 j u hu
                  rwa [Lib.addr_add] at this
                · intro i h1 h2
                  match i, h1, h2 with
                  | 0, _, _ => exact full_srcE (by omega) (srcAny_below Hsrc.out ((Below.refl _ _).alloc (Nat.le_refl _) _))
              have hb6 : Below wr.heap.size wr (wr.alloc (.cells #[.int .i64 2, .slice ba V.length bc, .int .i64 0, .bool false] 38)) := (Below.refl _ _).alloc (Nat.le_refl _) _
              generalize wr.alloc (.cells #[.int .i64 2, .slice ba V.length bc, .int .i64 0, .bool false] 38) = w6 at hst hb6 ⊢
              have Hb6 := Lib.hid (HbX.out.trans (hb6.mono HbX.out.size))
              have Hst := Lib.hid hst
              clear hst hb6
              refine (decode_fullE w6 4096 aI aN aL wr.heap.size V _ (by decide) ((HE.out.below Hb6.out).mono Hb6.out.size) Hst.out (by omega)).mono ?_
              rintro e w7 ⟨g7, c7, rfl, hans, hb7⟩
              have hc7 : 1 ≤ c7 := hans.len
              obtain ⟨fv, lv, nn, c0, c1, c2, c3', c4, c5, hf, hl⟩ := hans.at 0 _ rfl
              rw [show HD.dstep (st0 4096) (.full V) = HD.dstep ⟨⟨[], 4096, 4096, true, true⟩, []⟩ (.full V) from rfl, Hfb.out.1] at c4
              rw [show HD.dstep (st0 4096) (.full V) = HD.dstep ⟨⟨[], 4096, 4096, true, true⟩, []⟩ (.full V) from rfl, Hfb.out.2] at hl
              have q1 : w7.cell? ⟨g7, 1, none⟩ = some lv := c1
              have q4 : w7.cell? ⟨g7, 4, none⟩ = some (.int .i64 0) := c4
              have Hl := Lib.hid hl
              have Hb7 := Lib.hid (Hb6.out.trans (hb7.mono Hb6.out.size))
              have Hm7 := Lib.hid (Hm.out.mono Hb7.out)
              obtain ⟨la', lc', ln', hlv⟩ : ∃ a c n, lv = .slice a n c := by
                obtain ⟨a, c, h, -⟩ := Hl.out
                exact ⟨_, _, _, h⟩
              subst hlv
              have heq := fun (h62 : fs.length ≤ 2 ^ 62) => equal_any fs fs _ _ w7 Hl.out Hm7.out h62
              rw [← Hnn.out] at heq
              have Heq := Lib.hid (heq (by omega))
              clear hans c0 c1 c2 c3' c4 c5 hf hl hb7 heq Hsrc Hfb
              go_wp2_with fail
              refine Heq.out.mono ?_
              rintro e w8 ⟨rfl, hb8⟩
              rw [show decide True = true from rfl]
              have Hb8 := Lib.hid (Hb7.out.trans (hb8.mono Hb7.out.size))
              clear hb8
              go_wp2_with fail
              go_ret
              exact ⟨by simp, Hb8.out⟩
end Go.Proofs.YtjdmaflkafmmpaaDoor.FnEncodeTogether
