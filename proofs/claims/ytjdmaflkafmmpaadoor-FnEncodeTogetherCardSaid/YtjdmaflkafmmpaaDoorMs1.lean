/-
  Texts of this seat, one behind the other: ESpec, ESzWalk. What each one shows stands at its head. No condition.
-/
import Derived.Test.YtjdmaflkafmmpaaDoorMe8
/-
  The contract of spec.Sizes; a row of steps that the law has laid.
-/
namespace Go.Proofs.YtjdmaflkafmmpaaDoor
open Go.ChangeShapes Go.WideShapes Go.ChangeAt Go.RowKit

def stepsC (l : List StepR) : List Value := l.flatMap fun r => (stepA r.kind r.fld r.size).toList
theorem stepsC_len (l : List StepR) : (stepsC l).length = l.length * 5 := by
  induction l with
  | nil => rfl
  | cons e l ih => simp only [stepsC, List.flatMap_cons, List.length_append] at ih ⊢; rw [ih]; simp [stepA]; omega
theorem stepsC_append (a b : List StepR) : stepsC (a ++ b) = stepsC a ++ stepsC b := by simp [stepsC]
theorem stepsC_at : ∀ (l : List StepR) (i : Nat) (h : i < l.length) (j : Nat) (v : Value), (stepA l[i].kind l[i].fld l[i].size)[j]? = some v → (stepsC l)[i * 5 + j]? = some v := by
  intro l
  induction l with
  | nil => intro i h; simp at h
  | cons e l ih =>
    intro i h j v hv
    have hc : stepsC (e :: l) = (stepA e.kind e.fld e.size).toList ++ stepsC l := rfl
    rw [hc]
    cases i with
    | zero =>
      have hj : j < (stepA e.kind e.fld e.size).size := (Array.getElem?_eq_some_iff.1 hv).1
      rw [Nat.zero_mul, Nat.zero_add, List.getElem?_append_left (by simpa using hj), Array.getElem?_toList]
      exact hv
    | succ i =>
      have hl : (stepA e.kind e.fld e.size).toList.length = 5 := rfl
      rw [List.getElem?_append_right (by rw [hl]; omega), hl, show (i + 1) * 5 + j - 5 = i * 5 + j by omega]
      exact ih i (by simpa using h) j v hv
theorem stepsC_one (l : List StepR) : ∀ v ∈ stepsC l, v.oneCell' = true := by
  intro v hv
  simp only [stepsC, List.mem_flatMap] at hv
  obtain ⟨r, -, hv⟩ := hv
  simp only [stepA, List.mem_cons, List.not_mem_nil, or_false] at hv
  rcases hv with rfl | rfl | rfl | rfl | rfl <;> rfl
theorem steps_of_own {w : World} {B : Nat} {a : Option Addr} {c : Nat} {l : List StepR} (h : w.ownsRow B 28 5 (.slice a l.length c) l.length (stepsC l)) : ESteps w a l ∧ l.length ≤ c := by
  rcases h.2 with ⟨e, h0⟩ | ⟨g, cap, cur, e, -, -, h1, -⟩
  · injection e with e1 e2 e3
    exact ⟨fun hne => absurd (List.eq_nil_of_length_eq_zero h0) hne, by omega⟩
  · injection e with e1 e2 e3
    subst e1
    refine ⟨fun _ => ⟨g, 0, rfl, fun i hi j v hv => ?_⟩, by omega⟩
    have := h.cells (g := g) rfl _ v (stepsC_at l i hi j v hv)
    rw [Lib.addr_add, Nat.zero_add] at this
    rw [Nat.zero_add]
    exact this
def askR : StepR := ⟨3, ⟨[], [], false⟩, 0⟩
def askedR (l : List StepR) : List StepR := l.flatMap fun r => [r, askR]
theorem askedR_len (l : List StepR) : (askedR l).length = 2 * l.length := by
  induction l with
  | nil => rfl
  | cons e l ih => simp only [askedR, List.flatMap_cons, List.length_append] at ih ⊢; rw [ih]; simp; omega
theorem askedR_cmd (l : List StepR) : (askedR l).map StepR.cmd = HD.asked (l.map StepR.cmd) := by
  induction l with
  | nil => rfl
  | cons e l ih =>
    simp only [askedR, List.flatMap_cons, List.map_append, List.map_cons, HD.asked] at ih ⊢
    rw [ih]
    rfl
theorem askedR_snoc (l : List StepR) (k : Nat) (h : k < l.length) : askedR (l.take (k + 1)) = askedR (l.take k) ++ [l[k], askR] := by
  have : l.take (k + 1) = l.take k ++ [l[k]] := (List.take_append_getElem h).symm
  unfold askedR
  rw [this, List.flatMap_append]
  simp only [List.flatMap_cons, List.flatMap_nil, List.append_nil]
theorem empty_row (w : World) (t : TypeId) (s : Nat) : (w.alloc (.cells #[] t)).ownsRow w.heap.size t s (.slice (some ⟨w.heap.size, 0, none⟩) 0 0) 0 [] :=
  ⟨by simp, Or.inr ⟨w.heap.size, 0, #[], rfl, Nat.le_refl _, heap_alloc_new w _, Nat.le_refl _, Nat.zero_le _, by simp, by simp⟩⟩
theorem infoStep : (Tryd.prog.info? 28).map (fun i => (i.zero, i.size, i.bytes)) = some (some (.agg #[.int .i64 0, .string ByteArray.empty, .string ByteArray.empty, .bool false, .int .i64 0]), 5, 56) := by kernel_rfl
theorem infoInt : (Tryd.prog.info? 3).map (fun i => (i.zero, i.size, i.bytes)) = some (some (.int .i64 0), 1, 8) := by kernel_rfl
def intsC (l : List Nat) : List Value := l.map fun (z : Nat) => .int .i64 (z : Int)
theorem sizes_le : ∀ (cs : List HD.ECmd) (m l : Nat), (HD.sizes m l cs).length = cs.length
  | [], _, _ => rfl
  | c :: cs, m, l => by
    cases c <;> simp [HD.sizes, sizes_le cs]

set_option maxHeartbeats 2000000 in
set_option maxRecDepth 100000 in
theorem specSizes_any (w : World) (a : Option Addr) (cap : Nat) (ss : List StepI) (hm : EStepsI w a ss) (hcap : ss.length ≤ cap) (hf : FewOk ss) :
    Calls Tryd.prog 12 #[.slice a ss.length cap] w fun e w' => ∃ v, e = .returned v ∧ w'.ownsRow w.heap.size 3 1 v ss.length (intsC (HD.sizes 4096 4096 ((ss.map StepI.r).map StepR.cmd))) ∧ Below w.heap.size w w' := by
  obtain ⟨n, hnn⟩ : ∃ n, n = ss.length := ⟨_, rfl⟩
  have hn20 : n ≤ 1048576 := by have := hf.2; omega
  obtain ⟨cs, hcs⟩ : ∃ cs, cs = (ss.map StepI.r).map StepR.cmd := ⟨_, rfl⟩
  have hcl : cs.length = n := by rw [hcs, List.length_map, List.length_map, hnn]
  rw [← hcs]
  rw [← hnn] at hcap ⊢
  obtain ⟨i0, hi, hz0, hz1, hz8⟩ := info_parts infoInt
  have Hi := Lib.hid hi
  have Hnn := Lib.hid hnn
  have Hcs := Lib.hid hcs
  have Hcl := Lib.hid hcl
  have Hm := Lib.hid hm
  have Hf := Lib.hid hf
  clear hi hnn hcs hcl hm hf
  go_enter Tryd.func12, Tryd.ntmps12
  go_wp2_with fail
  go_loopw [3, 4, 5, 11] (fun mv lv ov iv wr => ∃ (k m l : Nat) (pre : List Nat), k ≤ n ∧ iv = .int .i64 (k : Nat) ∧ mv = .int .i64 (m : Nat) ∧ lv = .int .i64 (l : Nat) ∧ m ≤ 2147483648 ∧ l ≤ 2147483648 ∧ Hid (pre ++ HD.sizes m l (cs.drop k) = HD.sizes 4096 4096 cs) ∧ wr.ownsRow w.heap.size 3 1 ov k (intsC pre) ∧ Below w.heap.size w wr) (fun _ _ _ iv _ => n - (intOf iv).toNat)
  case atStart => exact ⟨0, 4096, 4096, [], Nat.zero_le _, rfl, rfl, rfl, by decide, by decide, Lib.hid rfl, empty_row w 3 1, (Below.refl _ _).alloc (Nat.le_refl _) _⟩
  case round =>
    obtain ⟨k, m, l, pre, hk, rfl, rfl, rfl, hmb, hlb, Hres, hown, hb⟩ := hrel
    obtain ⟨oa, oc, rfl⟩ := own_form hown
    rcases Nat.lt_or_ge k n with hlt | hge
    · have hkc : k < ss.length := by rw [← Hnn.out]; exact hlt
      have hkN : decide (k < n) = true := decide_eq_true hlt
      have hkI : (k : Int) < (n : Int) := by omega
      have hkcap : k < cap := by omega
      obtain ⟨g, o, rfl, hcell⟩ := Hm.out (fun h => by rw [h] at hkc; simp at hkc)
      obtain ⟨r, hr⟩ : ∃ r, r = ss[k] := ⟨_, rfl⟩
      have hcell := hcell k hkc
      rw [← hr] at hcell
      have up : ∀ j v, (stepI r)[j]? = some v → wr.cell? ⟨g, o + k * 5 + j, none⟩ = some v := fun j v hv => (hb.cell (World.block_lt_of_cell? _ _ (hcell j v hv))).trans (hcell j v hv)
      have q0 : wr.cell? ⟨g, o + k * 5, none⟩ = some (.int .i64 r.kind) := up 0 _ rfl
      have q1 : wr.cell? ⟨g, o + k * 5 + 1, none⟩ = some (.string ⟨r.fld.name.toArray⟩) := up 1 _ rfl
      have q2 : wr.cell? ⟨g, o + k * 5 + 2, none⟩ = some (.string ⟨r.fld.value.toArray⟩) := up 2 _ rfl
      have q3 : wr.cell? ⟨g, o + k * 5 + 3, none⟩ = some (.bool r.fld.sens) := up 3 _ rfl
      have q4 : wr.cell? ⟨g, o + k * 5 + 4, none⟩ = some (.int .i64 r.size) := up 4 _ rfl
      have Hb := Lib.hid hb
      have hsz := hb.size
      have Hr := Lib.hid hr
      clear hb hcell up hr
      obtain ⟨z, hz⟩ := Int.eq_ofNat_of_zero_le (Hf.out.1 _ (List.getElem_mem hkc)).2.1
      rw [← Hr.out] at hz
      have hzb : z ≤ 2147483648 := by have := (Hf.out.1 _ (List.getElem_mem hkc)).2.2; rw [← Hr.out, hz] at this; omega
      have hdrop : cs.drop k = cmdOf r.kind r.fld z :: cs.drop (k + 1) := by
        have hkl : k < cs.length := by rw [Hcl.out]; exact hlt
        rw [List.drop_eq_getElem_cons hkl]
        congr 1
        have : cs[k]? = some (cmdOf r.kind r.fld z) := by rw [Hcs.out, List.getElem?_map, List.getElem?_map, List.getElem?_eq_getElem hkc, ← Hr.out]; simp [StepI.r, StepR.cmd, hz]
        rw [List.getElem?_eq_getElem hkl] at this
        exact Option.some.inj this
      rw [hz] at q4
      have Hdrop := Lib.hid hdrop
      have Hown := Lib.hid hown
      clear hdrop hz hown
      by_cases h1 : r.kind = 1
      · have d1 : (r.kind == 1) = true := by simp [h1]
        have hsz' : HD.sizes m l (cs.drop k) = Nat.min z l :: HD.sizes (Nat.min z l) l (cs.drop (k + 1)) := by rw [Hdrop.out]; unfold cmdOf; rw [if_neg (by omega), if_pos h1]; rfl
        have H1 := Lib.hid h1
        clear h1
        rcases Nat.lt_or_ge l z with hlz | hlz
        · rw [show Nat.min z l = l from Nat.min_eq_right (Nat.le_of_lt hlz)] at hsz'
          have hlzI : (l : Int) < (z : Int) := by omega
          have Hsz' := Lib.hid hsz'
          have ha2 := news_of_new (wr.alloc (.cells #[.int .i64 r.kind, .string ⟨r.fld.name.toArray⟩, .string ⟨r.fld.value.toArray⟩, .bool r.fld.sens, .int .i64 (z : Nat)] 28)) [.int .i64 (l : Nat)] 3
          rw [show (wr.alloc (.cells #[.int .i64 r.kind, .string ⟨r.fld.name.toArray⟩, .string ⟨r.fld.value.toArray⟩, .bool r.fld.sens, .int .i64 (z : Nat)] 28)).heap.size = wr.heap.size + 1 by simp] at ha2
          have Ha2 := Lib.hid ha2
          clear hsz' ha2
          go_wp2_with (at_builtin; go_must (refine wpList_append_own_at _ rfl _ _ 43 rfl w.heap.size 3 i0 (.int .i64 0) 1 8 Tryd.underlying43 Hi.out hz0 hz1 hz8 rfl (by decide) (.slice oa k oc) k (intsC pre) rfl ((Hown.out.alloc _).alloc _) ⟨wr.heap.size + 1, 0, none⟩ 1 1 [.int .i64 (l : Nat)] rfl rfl Ha2.out (by simp [Value.oneCell']) (by unfold maxLen; omega) (by omega) (by simp; omega) ?_); intro v4 w4 hown4 hgrow4 _ _)
          have Hown4 := Lib.hid hown4
          have Hgrow4 := Lib.hid hgrow4
          clear hown4 hgrow4
          go_wp2_with fail
          refine ⟨⟨k + 1, l, l, pre ++ [l], hlt, by go_num, rfl, rfl, by omega, by omega, ?_, ?_, ?_⟩, by simp [intOf]; omega⟩
          · show _ = _
            rw [List.append_assoc, ← Hres.out, Hsz'.out]; rfl
          · rw [show intsC (pre ++ [l]) = intsC pre ++ [.int .i64 (l : Nat)] by simp [intsC]]
            exact Hown4.out
          · refine ((Hb.out.alloc hsz _).alloc (by simp; omega) _).grown Hgrow4.out (by simp; omega) (fun q hq => (Hown.out.lt q hq).1)
        · rw [show Nat.min z l = z from Nat.min_eq_left hlz] at hsz'
          have hlzI : ¬ (l : Int) < (z : Int) := by omega
          have hlzI2 : (z : Int) ≤ (l : Int) := by omega
          have Hsz' := Lib.hid hsz'
          have ha2 := news_of_new (wr.alloc (.cells #[.int .i64 r.kind, .string ⟨r.fld.name.toArray⟩, .string ⟨r.fld.value.toArray⟩, .bool r.fld.sens, .int .i64 (z : Nat)] 28)) [.int .i64 (z : Nat)] 3
          rw [show (wr.alloc (.cells #[.int .i64 r.kind, .string ⟨r.fld.name.toArray⟩, .string ⟨r.fld.value.toArray⟩, .bool r.fld.sens, .int .i64 (z : Nat)] 28)).heap.size = wr.heap.size + 1 by simp] at ha2
          have Ha2 := Lib.hid ha2
          clear hsz' ha2
          go_wp2_with (at_builtin; go_must (refine wpList_append_own_at _ rfl _ _ 43 rfl w.heap.size 3 i0 (.int .i64 0) 1 8 Tryd.underlying43 Hi.out hz0 hz1 hz8 rfl (by decide) (.slice oa k oc) k (intsC pre) rfl ((Hown.out.alloc _).alloc _) ⟨wr.heap.size + 1, 0, none⟩ 1 1 [.int .i64 (z : Nat)] rfl rfl Ha2.out (by simp [Value.oneCell']) (by unfold maxLen; omega) (by omega) (by simp; omega) ?_); intro v4 w4 hown4 hgrow4 _ _)
          have Hown4 := Lib.hid hown4
          have Hgrow4 := Lib.hid hgrow4
          clear hown4 hgrow4
          go_wp2_with fail
          refine ⟨⟨k + 1, z, l, pre ++ [z], hlt, by go_num, rfl, rfl, by omega, by omega, ?_, ?_, ?_⟩, by simp [intOf]; omega⟩
          · show _ = _
            rw [List.append_assoc, ← Hres.out, Hsz'.out]; rfl
          · rw [show intsC (pre ++ [z]) = intsC pre ++ [.int .i64 (z : Nat)] by simp [intsC]]
            exact Hown4.out
          · refine ((Hb.out.alloc hsz _).alloc (by simp; omega) _).grown Hgrow4.out (by simp; omega) (fun q hq => (Hown.out.lt q hq).1)
      · have d1 : (r.kind == 1) = false := by simp [h1]
        by_cases h2 : r.kind = 2
        · have d2 : (r.kind == 2) = true := by simp [h2]
          have hsz' : HD.sizes m l (cs.drop k) = Nat.min m z :: HD.sizes (Nat.min m z) z (cs.drop (k + 1)) := by rw [Hdrop.out]; unfold cmdOf; rw [if_neg (by omega), if_neg h1, if_pos h2]; rfl
          have H2 := Lib.hid h2
          clear h2
          rcases Nat.lt_or_ge z m with hlz | hlz
          · rw [show Nat.min m z = z from Nat.min_eq_right (Nat.le_of_lt hlz)] at hsz'
            have hlzI : (z : Int) < (m : Int) := by omega
            have Hsz' := Lib.hid hsz'
            have ha2 := news_of_new (wr.alloc (.cells #[.int .i64 r.kind, .string ⟨r.fld.name.toArray⟩, .string ⟨r.fld.value.toArray⟩, .bool r.fld.sens, .int .i64 (z : Nat)] 28)) [.int .i64 (z : Nat)] 3
            rw [show (wr.alloc (.cells #[.int .i64 r.kind, .string ⟨r.fld.name.toArray⟩, .string ⟨r.fld.value.toArray⟩, .bool r.fld.sens, .int .i64 (z : Nat)] 28)).heap.size = wr.heap.size + 1 by simp] at ha2
            have Ha2 := Lib.hid ha2
            clear hsz' ha2
            go_wp2_with (at_builtin; go_must (refine wpList_append_own_at _ rfl _ _ 43 rfl w.heap.size 3 i0 (.int .i64 0) 1 8 Tryd.underlying43 Hi.out hz0 hz1 hz8 rfl (by decide) (.slice oa k oc) k (intsC pre) rfl ((Hown.out.alloc _).alloc _) ⟨wr.heap.size + 1, 0, none⟩ 1 1 [.int .i64 (z : Nat)] rfl rfl Ha2.out (by simp [Value.oneCell']) (by unfold maxLen; omega) (by omega) (by simp; omega) ?_); intro v4 w4 hown4 hgrow4 _ _)
            have Hown4 := Lib.hid hown4
            have Hgrow4 := Lib.hid hgrow4
            clear hown4 hgrow4
            go_wp2_with fail
            refine ⟨⟨k + 1, z, z, pre ++ [z], hlt, by go_num, rfl, rfl, by omega, by omega, ?_, ?_, ?_⟩, by simp [intOf]; omega⟩
            · show _ = _
              rw [List.append_assoc, ← Hres.out, Hsz'.out]; rfl
            · rw [show intsC (pre ++ [z]) = intsC pre ++ [.int .i64 (z : Nat)] by simp [intsC]]
              exact Hown4.out
            · refine ((Hb.out.alloc hsz _).alloc (by simp; omega) _).grown Hgrow4.out (by simp; omega) (fun q hq => (Hown.out.lt q hq).1)
          · rw [show Nat.min m z = m from Nat.min_eq_left hlz] at hsz'
            have hlzI : ¬ (z : Int) < (m : Int) := by omega
            have hlzI2 : (m : Int) ≤ (z : Int) := by omega
            have Hsz' := Lib.hid hsz'
            have ha2 := news_of_new (wr.alloc (.cells #[.int .i64 r.kind, .string ⟨r.fld.name.toArray⟩, .string ⟨r.fld.value.toArray⟩, .bool r.fld.sens, .int .i64 (z : Nat)] 28)) [.int .i64 (m : Nat)] 3
            rw [show (wr.alloc (.cells #[.int .i64 r.kind, .string ⟨r.fld.name.toArray⟩, .string ⟨r.fld.value.toArray⟩, .bool r.fld.sens, .int .i64 (z : Nat)] 28)).heap.size = wr.heap.size + 1 by simp] at ha2
            have Ha2 := Lib.hid ha2
            clear hsz' ha2
            go_wp2_with (at_builtin; go_must (refine wpList_append_own_at _ rfl _ _ 43 rfl w.heap.size 3 i0 (.int .i64 0) 1 8 Tryd.underlying43 Hi.out hz0 hz1 hz8 rfl (by decide) (.slice oa k oc) k (intsC pre) rfl ((Hown.out.alloc _).alloc _) ⟨wr.heap.size + 1, 0, none⟩ 1 1 [.int .i64 (m : Nat)] rfl rfl Ha2.out (by simp [Value.oneCell']) (by unfold maxLen; omega) (by omega) (by simp; omega) ?_); intro v4 w4 hown4 hgrow4 _ _)
            have Hown4 := Lib.hid hown4
            have Hgrow4 := Lib.hid hgrow4
            clear hown4 hgrow4
            go_wp2_with fail
            refine ⟨⟨k + 1, m, z, pre ++ [m], hlt, by go_num, rfl, rfl, by omega, by omega, ?_, ?_, ?_⟩, by simp [intOf]; omega⟩
            · show _ = _
              rw [List.append_assoc, ← Hres.out, Hsz'.out]; rfl
            · rw [show intsC (pre ++ [m]) = intsC pre ++ [.int .i64 (m : Nat)] by simp [intsC]]
              exact Hown4.out
            · refine ((Hb.out.alloc hsz _).alloc (by simp; omega) _).grown Hgrow4.out (by simp; omega) (fun q hq => (Hown.out.lt q hq).1)
        · have d2 : (r.kind == 2) = false := by simp [h2]
          have hsz' : HD.sizes m l (cs.drop k) = m :: HD.sizes m l (cs.drop (k + 1)) := by
            rw [Hdrop.out]; unfold cmdOf
            by_cases h0 : r.kind = 0
            · rw [if_pos h0]; rfl
            · rw [if_neg h0, if_neg h1, if_neg h2]; rfl
          have Hsz' := Lib.hid hsz'
          have ha2 := news_of_new (wr.alloc (.cells #[.int .i64 r.kind, .string ⟨r.fld.name.toArray⟩, .string ⟨r.fld.value.toArray⟩, .bool r.fld.sens, .int .i64 (z : Nat)] 28)) [.int .i64 (m : Nat)] 3
          rw [show (wr.alloc (.cells #[.int .i64 r.kind, .string ⟨r.fld.name.toArray⟩, .string ⟨r.fld.value.toArray⟩, .bool r.fld.sens, .int .i64 (z : Nat)] 28)).heap.size = wr.heap.size + 1 by simp] at ha2
          have Ha2 := Lib.hid ha2
          clear hsz' ha2
          go_wp2_with (at_builtin; go_must (refine wpList_append_own_at _ rfl _ _ 43 rfl w.heap.size 3 i0 (.int .i64 0) 1 8 Tryd.underlying43 Hi.out hz0 hz1 hz8 rfl (by decide) (.slice oa k oc) k (intsC pre) rfl ((Hown.out.alloc _).alloc _) ⟨wr.heap.size + 1, 0, none⟩ 1 1 [.int .i64 (m : Nat)] rfl rfl Ha2.out (by simp [Value.oneCell']) (by unfold maxLen; omega) (by omega) (by simp; omega) ?_); intro v4 w4 hown4 hgrow4 _ _)
          have Hown4 := Lib.hid hown4
          have Hgrow4 := Lib.hid hgrow4
          clear hown4 hgrow4
          go_wp2_with fail
          refine ⟨⟨k + 1, m, l, pre ++ [m], hlt, by go_num, rfl, rfl, by omega, by omega, ?_, ?_, ?_⟩, by simp [intOf]; omega⟩
          · show _ = _
            rw [List.append_assoc, ← Hres.out, Hsz'.out]; rfl
          · rw [show intsC (pre ++ [m]) = intsC pre ++ [.int .i64 (m : Nat)] by simp [intsC]]
            exact Hown4.out
          · refine ((Hb.out.alloc hsz _).alloc (by simp; omega) _).grown Hgrow4.out (by simp; omega) (fun q hq => (Hown.out.lt q hq).1)
    · obtain rfl : k = n := Nat.le_antisymm hk hge
      have Hown := Lib.hid hown
      clear hown
      go_wp2_with fail
      go_ret
      refine ⟨_, rfl, ?_, hb⟩
      have h1 := Hres.out
      rw [List.drop_of_length_le (Nat.le_of_eq Hcl.out), show HD.sizes m l [] = [] from rfl, List.append_nil] at h1
      rw [← h1]
      exact Hown.out
end Go.Proofs.YtjdmaflkafmmpaaDoor
/-
  The walk of FnEncodeSizes.
-/
namespace Go.Proofs.YtjdmaflkafmmpaaDoor.FnEncodeSizes
open Go.ChangeShapes Go.WideShapes Go.ChangeAt Go.RowKit

theorem asked_fine {l : List StepR} (h : ∀ r ∈ l, r.Fine) : ∀ r ∈ askedR l, r.Fine := by
  intro r hr
  simp only [askedR, List.mem_flatMap, List.mem_cons, List.not_mem_nil, or_false] at hr
  obtain ⟨q, hq, rfl | rfl⟩ := hr
  · exact h r hq
  · exact ⟨by decide, by decide⟩
/-- Of a row that the call owns: where it lies. -/
theorem own_pos {w : World} {B e size n c : Nat} {a : Option Addr} {xs : List Value} (h : w.ownsRow B e size (.slice a n c) n xs) (hn : 0 < n) : ∃ g, a = some ⟨g, 0, none⟩ ∧ n ≤ c := by
  rcases h.2 with ⟨-, h0⟩ | ⟨g, cap, cur, e, -, -, h1, -⟩
  · omega
  · injection e with e1 e2 e3
    exact ⟨g, e1, by omega⟩
set_option maxHeartbeats 4000000 in
set_option maxRecDepth 100000 in
theorem walk (sa : Option Addr) (cap : Nat) (ss : List StepI) (W : World) (hm : EStepsI W sa ss) (hcap : ss.length ≤ cap) (hn : ss.length ≤ maxLen) (hml : ∀ r ∈ ss, r.fld.name.length ≤ maxLen ∧ r.fld.value.length ≤ maxLen) (ht : LenTab W) (hc : CodeTab W) :
    Calls Tryd.prog 5 #[.slice sa ss.length cap] W fun e W' => e = .returned (.bool true) ∧ Below W.heap.size W W' := by
  have hG : 5 < W.heap.size ∧ 6 < W.heap.size := ⟨LenTab.lt ht, CodeTab.lt hc⟩
  obtain ⟨n, hnn⟩ : ∃ n, n = ss.length := ⟨_, rfl⟩
  have hcap' : n ≤ cap := by omega
  have hnl : n ≤ 9223372036854775807 := by unfold maxLen at hn; omega
  obtain ⟨i0, hi, hz0, hz1, hzb⟩ := info_parts infoStep
  have Hi := Lib.hid hi
  have Hcap := Lib.hid hcap
  have Hn := Lib.hid hn
  have Hml := Lib.hid hml
  have Hm := Lib.hid hm
  have Ht := Lib.hid ht
  have Hc := Lib.hid hc
  have HG := Lib.hid hG
  have Hnn := Lib.hid hnn
  have f4 := fun (w : World) (hb : Below W.heap.size W w) => fits4_any w sa cap ss (hm.mono hb) hcap hn
  have fw := fun (w : World) (hb : Below W.heap.size W w) => few_any w sa cap ss (hm.mono hb) hcap hn hml
  have fs := fun (w : World) (hb : Below W.heap.size W w) (hf : FewOk ss) => specSizes_any w sa cap ss (hm.mono hb) hcap hf
  rw [← hnn] at f4 fw fs ⊢
  have F4 := Lib.hid f4
  have Fw := Lib.hid fw
  have Fs := Lib.hid fs
  clear hi hcap hn hml hm ht hc hG hnn f4 fw fs
  go_enter Tryd.func5, Tryd.ntmps5
  go_wp2_with fail
  refine (F4.out _ (Below.refl _ _)).mono ?_
  rintro e w1 ⟨b, rfl, hb1⟩
  have Hb1 := Lib.hid hb1
  clear hb1
  cases b with
  | false =>
    go_wp2_with fail
    go_ret
    exact ⟨rfl, Hb1.out⟩
  | true =>
    go_wp2_with fail
    refine (Fw.out _ Hb1.out).mono ?_
    rintro e w2 ⟨b, rfl, hb2, hfew⟩
    have Hb2 := Lib.hid (Hb1.out.trans (hb2.mono Hb1.out.size))
    clear hb2
    cases b with
    | false =>
      go_wp2_with fail
      go_ret
      exact ⟨rfl, Hb2.out⟩
    | true =>
      have hfe := hfew rfl
      clear hfew
      have hn20 : n ≤ 1048576 := by have := hfe.2; rw [Hnn.out]; omega
      have Hfew := Lib.hid hfe
      obtain ⟨R, hR⟩ : ∃ R, R = ss.map StepI.r := ⟨_, rfl⟩
      have hRl : R.length = n := by rw [hR, List.length_map, Hnn.out]
      have HR := Lib.hid hR
      have HRl := Lib.hid hRl
      have Hsz2 := Lib.hid Hb2.out.size
      clear hfe hR hRl
      go_wp2_with fail
      go_loopw [3, 18] (fun ov iv wr => ∃ k : Nat, k ≤ n ∧ iv = .int .i64 (k : Nat) ∧ wr.ownsRow w2.heap.size 28 5 ov (2 * k) (stepsC (askedR (R.take k))) ∧ Below w2.heap.size w2 wr) (fun _ iv _ => n - (intOf iv).toNat)
      case atStart => exact ⟨0, Nat.zero_le _, rfl, empty_row w2 28 5, (Below.refl _ _).alloc (Nat.le_refl _) _⟩
      case round =>
        obtain ⟨k, hk, rfl, hown, hb⟩ := hrel
        obtain ⟨oa, oc, rfl⟩ := own_form hown
        rcases Nat.lt_or_ge k n with hlt | hge
        · have hkc : k < ss.length := by rw [← Hnn.out]; exact hlt
          have hkN : decide (k < n) = true := decide_eq_true hlt
          have hkI : (k : Int) < (n : Int) := by omega
          have hkcap : k < cap := by omega
          obtain ⟨g, o, rfl, hcell⟩ := Hm.out (fun h => by rw [h] at hkc; simp at hkc)
          obtain ⟨r, hr⟩ : ∃ r, r = ss[k] := ⟨_, rfl⟩
          have hcell := hcell k hkc
          rw [← hr] at hcell
          have hbW : Below W.heap.size W wr := Hb2.out.trans (hb.mono Hb2.out.size)
          have up : ∀ j v, (stepI r)[j]? = some v → wr.cell? ⟨g, o + k * 5 + j, none⟩ = some v := fun j v hv => (hbW.cell (World.block_lt_of_cell? _ _ (hcell j v hv))).trans (hcell j v hv)
          have q0 : wr.cell? ⟨g, o + k * 5, none⟩ = some (.int .i64 r.kind) := up 0 _ rfl
          have q1 : wr.cell? ⟨g, o + k * 5 + 1, none⟩ = some (.string ⟨r.fld.name.toArray⟩) := up 1 _ rfl
          have q2 : wr.cell? ⟨g, o + k * 5 + 2, none⟩ = some (.string ⟨r.fld.value.toArray⟩) := up 2 _ rfl
          have q3 : wr.cell? ⟨g, o + k * 5 + 3, none⟩ = some (.bool r.fld.sens) := up 3 _ rfl
          have q4 : wr.cell? ⟨g, o + k * 5 + 4, none⟩ = some (.int .i64 r.size) := up 4 _ rfl
          obtain ⟨z, hz⟩ := Int.eq_ofNat_of_zero_le (Hfew.out.1 _ (List.getElem_mem hkc)).2.1
          rw [← hr] at hz
          rw [hz] at q4
          have hRk : askedR (R.take (k + 1)) = askedR (R.take k) ++ [⟨r.kind, r.fld, z⟩, askR] := by
            rw [askedR_snoc R k (by rw [HRl.out]; exact hlt)]
            congr 2
            have : R[k]? = some ⟨r.kind, r.fld, z⟩ := by rw [HR.out, List.getElem?_map, List.getElem?_eq_getElem hkc, ← hr]; simp [StepI.r, hz]
            rw [List.getElem?_eq_getElem (by rw [HRl.out]; exact hlt)] at this
            exact Option.some.inj this
          have hsz := hb.size
          have Hb := Lib.hid hb
          have Hown := Lib.hid hown
          have HRk := Lib.hid hRk
          have ha2 := news_of_new (wr.alloc (.cells #[.int .i64 r.kind, .string ⟨r.fld.name.toArray⟩, .string ⟨r.fld.value.toArray⟩, .bool r.fld.sens, .int .i64 (z : Nat)] 28)) [.int .i64 r.kind, .string ⟨r.fld.name.toArray⟩, .string ⟨r.fld.value.toArray⟩, .bool r.fld.sens, .int .i64 (z : Nat), .int .i64 3, .string ByteArray.empty, .string ByteArray.empty, .bool false, .int .i64 0] 28
          rw [show (wr.alloc (.cells #[.int .i64 r.kind, .string ⟨r.fld.name.toArray⟩, .string ⟨r.fld.value.toArray⟩, .bool r.fld.sens, .int .i64 (z : Nat)] 28)).heap.size = wr.heap.size + 1 by simp] at ha2
          have Ha2 := Lib.hid ha2
          clear hcell up hr hbW hz hRk hb hown ha2
          go_wp2_with (at_builtin; go_must (refine wpList_append_own_at _ rfl _ _ 24 rfl w2.heap.size 28 i0 (.agg #[.int .i64 0, .string ByteArray.empty, .string ByteArray.empty, .bool false, .int .i64 0]) 5 56 Tryd.underlying24 Hi.out hz0 hz1 hzb rfl (by decide) (.slice oa (2 * k) oc) (2 * k) (stepsC (askedR (R.take k))) rfl ((Hown.out.alloc _).alloc _) ⟨wr.heap.size + 1, 0, none⟩ 2 2 [.int .i64 r.kind, .string ⟨r.fld.name.toArray⟩, .string ⟨r.fld.value.toArray⟩, .bool r.fld.sens, .int .i64 (z : Nat), .int .i64 3, .string ByteArray.empty, .string ByteArray.empty, .bool false, .int .i64 0] rfl rfl Ha2.out (by simp [Value.oneCell']) (by unfold maxLen; omega) (by omega) (by simp; omega) ?_); intro v4 w4 hown4 hgrow4 _ _)
          refine ⟨⟨k + 1, hlt, by go_num, ?_, ?_⟩, by simp [intOf]; omega⟩
          · rw [HRk.out, stepsC_append, show 2 * (k + 1) = 2 * k + 2 by omega]
            exact hown4
          · exact ((Hb.out.alloc hsz _).alloc (by simp; omega) _).grown hgrow4 (by simp; omega) (fun q hq => (Hown.out.lt q hq).1)
        · obtain rfl : k = n := Nat.le_antisymm hk hge
          have e1 : R.take k = R := by rw [← HRl.out]; exact List.take_length
          rw [e1] at hown
          have hal : (askedR R).length = 2 * k := by rw [askedR_len, HRl.out]
          rw [← hal] at hown
          have hso := steps_of_own hown
          have hbW : Below W.heap.size W wr := Hb2.out.trans (hb.mono Hb2.out.size)
          have hfr : ∀ r ∈ R, r.Fine := by rw [HR.out]; exact Hfew.out.fine
          have hrun := encRun_any wr oa oc (askedR R) hso.1 hso.2 (by rw [hal]; omega) (asked_fine hfr) ⟨Nat.lt_of_lt_of_le HG.out.1 hbW.size, Nat.lt_of_lt_of_le HG.out.2 hbW.size⟩ (Ht.out.below hbW HG.out.1) (Hc.out.below hbW HG.out.2)
          rw [hal] at hrun
          have hI2 : ((2 * k : Nat) : Int) = 2 * (k : Int) := by omega
          have HbW := Lib.hid hbW
          have Hal := Lib.hid hal
          have Hrun := Lib.hid hrun
          clear e1 hown hal hso hbW hfr hrun hb
          go_wp2_with fail
          refine Hrun.out.mono ?_
          rintro e w3 ⟨ov, vs, X, A, rfl, hown, hA, hat, hX, -, hb3⟩
          rw [List.length_map, Hal.out] at hown
          obtain ⟨la, lc, rfl⟩ := own_form hown
          rw [askedR_cmd] at hA
          obtain ⟨hAl, hAs⟩ := HD.sizes_run _ _ _ hA
          have HA := Lib.hid hAs
          have Hb3 := Lib.hid (HbW.out.trans (hb3.mono HbW.out.size))
          have Hown3 := Lib.hid hown
          have Hat := Lib.hid hat
          clear hAl hAs hA hb3 hown hat hX
          go_wp2_with fail
          refine (Fs.out _ Hb3.out Hfew.out).mono ?_
          rintro e w5 ⟨sv, rfl, hown5, hb5⟩
          obtain ⟨ca, cc, rfl⟩ := own_form hown5
          have Hb5 := Lib.hid (Hb3.out.trans (hb5.mono Hb3.out.size))
          have Hb35 := Lib.hid hb5
          have Hown5 := Lib.hid hown5
          clear hb5 hown5
          go_wp2_with fail
          go_loopw [8, 40] (fun _ iv wx => ∃ j : Nat, j ≤ k ∧ iv = .int .i64 (j : Nat) ∧ Below w5.heap.size w5 wx) (fun _ iv _ => k - (intOf iv).toNat)
          case atStart => exact ⟨0, Nat.zero_le _, rfl, Below.refl _ _⟩
          case round =>
            obtain ⟨j, hj, rfl, hbx⟩ := hrel
            rcases Nat.lt_or_ge j k with hlt | hge2
            · have hjN : decide (j < k) = true := decide_eq_true hlt
              have hjI : (j : Int) < (k : Int) := by omega
              have hpos : 0 < k := by omega
              obtain ⟨gl, rfl, hlc⟩ := own_pos Hown3.out (by omega)
              obtain ⟨gc, rfl, hcc⟩ := own_pos Hown5.out hpos
              have hj2 := HA.out j (by rw [List.length_map, HRl.out]; exact hlt)
              have hzl : (HD.sizes 4096 4096 (R.map StepR.cmd)).length = k := by rw [sizes_le, List.length_map, HRl.out]
              obtain ⟨z, hz⟩ : ∃ z, (HD.sizes 4096 4096 (R.map StepR.cmd))[j]? = some z := ⟨_, List.getElem?_eq_getElem (by rw [hzl]; exact hlt)⟩
              have hj2' : (A[2 * j + 1]?).map (·.size) = some z := hj2.trans hz
              obtain ⟨an, han, hsz⟩ := Option.map_eq_some_iff.1 hj2'
              obtain ⟨bv, v0, v1, v2, v3, hbr⟩ := Hat.out _ an han
              rw [hsz] at v2
              have p2 : wr.cell? ⟨gl, (2 * j + 1) * 4 + 2, none⟩ = some (.int .i64 (z : Nat)) := by
                have h1 := Hown3.out.cells (g := gl) rfl _ _ v2
                rw [Lib.addr_add, Nat.zero_add] at h1
                have h2 := (Hb35.out.cell (World.block_lt_of_cell? _ _ h1)).trans h1
                exact (hbx.cell (World.block_lt_of_cell? _ _ h2)).trans h2
              have p3 : wr.cell? ⟨gc, j, none⟩ = some (.int .i64 (z : Nat)) := by
                have h0 : (intsC (HD.sizes 4096 4096 (R.map StepR.cmd)))[j]? = some (.int .i64 (z : Nat)) := by unfold intsC; rw [List.getElem?_map, hz]; rfl
                rw [HR.out] at h0
                have h1 := Hown5.out.cells (g := gc) rfl _ _ h0
                rw [Lib.addr_add, Nat.zero_add] at h1
                exact (hbx.cell (World.block_lt_of_cell? _ _ h1)).trans h1
              have hw1 : IntKind.i64.wrap (2 * (j : Int)) = 2 * (j : Int) := by rw [IntKind.wrap_i64]; omega
              have hw2 : IntKind.i64.wrap (2 * (j : Int) + 1) = ((2 * j + 1 : Nat) : Int) := by rw [IntKind.wrap_i64]; omega
              have hjlI : 2 * j + 1 < lc := by omega
              have hjcI : j < cc := by omega
              have Hbx := Lib.hid hbx
              clear hj2 hj2' hz hzl han hsz v0 v1 v2 v3 hbr hbx
              go_upto_region 18 with (fail)
              have ht1 : (2 * (j : Int) + 1).toNat = 2 * j + 1 := by omega
              have ht2 : 0 ≤ 2 * (j : Int) + 1 := by omega
              have ht3 : 2 * (j : Int) + 1 < 2 * (k : Int) := by omega
              go_quiet (fail)
              go_wp2_with fail
              exact ⟨⟨j + 1, hlt, by go_num, Hbx.out.trans ⟨rfl, rfl, rfl, Nat.le_refl _, fun _ _ => rfl⟩⟩, by simp [intOf]; omega⟩
            · obtain rfl : j = k := Nat.le_antisymm hj hge2
              go_wp2_with fail
              go_ret
              exact ⟨rfl, Hb5.out.trans (hbx.mono Hb5.out.size)⟩
end Go.Proofs.YtjdmaflkafmmpaaDoor.FnEncodeSizes
