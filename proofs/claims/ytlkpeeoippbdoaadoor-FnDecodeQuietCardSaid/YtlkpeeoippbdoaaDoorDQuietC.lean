/-
  FnDecodeQuiet: a decoder emits at first; one that must not emits nothing, and keeps its table all the same. No condition.
-/
import Derived.Test.YtlkpeeoippbdoaaDoorMq1
namespace Go.Proofs.YtlkpeeoippbdoaaDoor.FnDecodeQuiet
open Go.ChangeShapes Go.WideShapes Go.ChangeAt Go.RowKit

theorem srcAny_mono {sa : Option Addr} {cap : Nat} {v : List UInt8} {w w' : World} (h : SrcAny sa cap v w) (hb : Below w.heap.size w w') : SrcAny sa cap v w' :=
  h.imp id fun ⟨a, e, hc⟩ => ⟨a, e, fun q u hu => (hb.cell (World.block_lt_of_cell? _ _ (hc q u hu))).trans (hc q u hu)⟩
def whCells (v : HD.Bs) (b : Value) : List Value := cmdCells (.write v) b ++ cmdCells .close (.slice none 0 0)

theorem rd_len : ∀ (A : List HD.Ans) (acc : List HD.Fld), (HD.rd acc A).1.length ≤ acc.length + (A.map fun a => a.out.length).sum
  | [], acc => by simp [HD.rd]
  | a :: A, acc => by
    rw [HD.rd]
    cases a.err with
    | some e => simp
    | none =>
      have := rd_len A (acc ++ a.out)
      simp at this ⊢
      omega
def midCells : List Value := [.int .i64 7, .slice none 0 0, .int .i64 0, .bool false, .int .i64 4, .slice none 0 0, .int .i64 0, .bool true, .int .i64 7, .slice none 0 0, .int .i64 0, .bool false]

set_option maxHeartbeats 4000000 in
set_option maxRecDepth 100000 in
theorem main (size : Nat) (sb : Option Addr) (cb : Nat) (b : HD.Bs) (sc : Option Addr) (cc : Nat) (c : HD.Bs) (W : World) (hs : SrcAny sb cb b W) (ht : SrcAny sc cc c W) (aI aN aL : Addr) (hE : Env W.heap.size W aI aN aL) (hsz : size ≤ 2 ^ 31) (hv : b.length + c.length ≤ 1048576) :
    Calls Tryd.prog 6 #[.int .i64 (size : Nat), .slice sb b.length cb, .slice sc c.length cc] W fun e W' => e = .returned (.bool true) ∧ Below W.heap.size W W' := by
  have d1 : decide ((2147483647 : Int) < (b.length : Int)) = false := by simp; omega
  have d2 : decide ((2147483647 : Int) < (c.length : Int)) = false := by simp; omega
  have d5 : decide (0 ≤ (size : Int) ∧ (size : Int) ≤ 2147483648) = true := decide_eq_true ⟨by omega, by omega⟩
  have HE := Lib.hid hE
  have Hs := Lib.hid hs
  have Ht := Lib.hid ht
  obtain ⟨i0, hi, hz0, hz1, hzb⟩ := info_parts infoDS'
  have Hi := Lib.hid hi
  clear hE hs ht hi
  go_enter Tryd.func6, Tryd.ntmps6
  go_wp2_with fail
  refine (isSize_any _ _).mono ?_
  rintro e w1 ⟨rfl, hw1⟩
  subst hw1
  rw [d5]
  clear d5
  go_wp2_with fail
  have hq : ∀ j u, [Value.slice sb b.length cb, .slice sc c.length cc][j]? = some u → (w1.alloc (.cells #[.slice sb b.length cb, .slice sc c.length cc] 22)).cell? ⟨w1.heap.size, j, none⟩ = some u := fun j u hu => by
    rw [Lib.cell_of_heap (heap_alloc_new w1 _)]
    simpa using hu
  refine (small_any w1.heap.size sb sc b.length c.length cb cc _ (by exact hq 0 _ rfl) (by exact hq 1 _ rfl) (by omega) (by omega)).mono ?_
  rintro e w2 ⟨rfl, hb2⟩
  have hok : decide (b.length + c.length ≤ 1048576) = true := decide_eq_true hv
  rw [hok]
  have hb02 : Below w1.heap.size w1 w2 := ((Below.refl _ w1).alloc (Nat.le_refl _) _).trans (hb2.mono (by simp))
  have Hb2 := Lib.hid hb02
  clear hq hb2 hok hb02
  go_wp2_with fail
  refine (whole_any _ _ _ _).mono ?_
  rintro e w3 ⟨rfl, hw3⟩
  have ho3 := own_new (w := w2) (whCells b (.slice sb b.length cb)).toArray 27 4 2 rfl (by decide)
  rw [show w2.alloc (.cells (whCells b (.slice sb b.length cb)).toArray 27) = w3 from hw3.symm] at ho3
  have hs3 := Lib.hid (show w3.heap.size = w2.heap.size + 1 by rw [hw3]; simp)
  have hb3 : Below w2.heap.size w2 w3 := by rw [hw3]; exact (Below.refl _ _).alloc (Nat.le_refl _) _
  have Ho3 := Lib.hid ho3
  have Hb3 := Lib.hid (Hb2.out.trans (hb3.mono Hb2.out.size))
  clear ho3 hb3 hw3
  go_wp2_with fail
  refine (whole_any _ _ _ _).mono ?_
  rintro e w4 ⟨rfl, hw4⟩
  have hn4 : ∀ j u, (whCells c (.slice sc c.length cc))[j]? = some u → w4.cell? ((⟨w3.heap.size, 0, none⟩ : Addr).add j) = some u := by
    rw [hw4]; exact news_of_new w3 (whCells c (.slice sc c.length cc)) _
  have hb4 : Below w3.heap.size w3 w4 := by rw [hw4]; exact (Below.refl _ _).alloc (Nat.le_refl _) _
  have hs4 := Lib.hid (show w4.heap.size = w3.heap.size + 1 by rw [hw4]; simp)
  have Ho4 := Lib.hid (ownsRow_of_heap Ho3.out fun g hg => hb4.block g (Ho3.out.lt g hg).2)
  have Hn4 := Lib.hid hn4
  have Hb4 := Lib.hid (Hb3.out.trans (hb4.mono Hb3.out.size))
  clear hn4 hb4 hw4 Ho3
  go_wp2_with (at_builtin; (refine wpList_append_own_at _ rfl _ _ 25 rfl w2.heap.size 27 i0 (.agg #[.int .i64 0, .slice none 0 0, .int .i64 0, .bool false]) 4 48 Tryd.underlying25 Hi.out hz0 hz1 hzb rfl (by decide) (.slice (some ⟨w2.heap.size, 0, none⟩) 2 2) 2 (whCells b (.slice sb b.length cb)) rfl ?a1 ⟨w3.heap.size, 0, none⟩ 2 2 (whCells c (.slice sc c.length cc)) rfl rfl ?a2 ?a3 ?a4 ?a5 ?a6 ?_))
  case a1 => exact Ho4.out
  case a2 => exact Hn4.out
  case a3 => intro u hu; simp [cmdCells, whCells] at hu; rcases hu with rfl | rfl | rfl | rfl | rfl | rfl | rfl | rfl <;> rfl
  case a4 => decide
  case a5 => decide
  case a6 => have := hs3.out; have := hs4.out; omega
  intro v5 w5 hown5 hgrow5 _ _
  obtain ⟨g5, c5, rfl, hc5, hm5, -, -⟩ := own_some hown5 (by decide)
  have hb5 : Below w1.heap.size w1 w5 := Hb4.out.grown hgrow5 Hb4.out.size (fun g hg => Nat.le_trans Hb2.out.size (Ho4.out.lt g hg).1)
  have hsm5 : StepsMem w5 g5 0 (HD.loudCmds b c) [.slice sb b.length cb, .slice none 0 0, .slice sc c.length cc, .slice none 0 0] := by
    refine steps_of_own (B := w2.heap.size) (n := 4) (cap := c5) rfl ?_ ?_
    · simpa [stepCells, HD.loudCmds, whCells] using hown5
    · intro i h1 h2
      match i, h1, h2 with
      | 0, _, _ => exact CmdV.write_src (by omega) (srcAny_mono Hs.out hb5)
      | 1, _, _ => exact CmdV.plain rfl (by show 0 < _; decide)
      | 2, _, _ => exact CmdV.write_src (by omega) (srcAny_mono Ht.out hb5)
      | 3, _, _ => exact CmdV.plain rfl (by show 0 < _; decide)
  have Hb5 := Lib.hid hb5
  have Hsm5 := Lib.hid hsm5
  clear hown5 hgrow5 hb5 hsm5 Ho4 Hn4
  go_wp2_with fail
  refine (decode_steps w5 size aI aN aL g5 0 c5 (HD.loudCmds b c) _ hsz ((HE.out.below Hb5.out).mono Hb5.out.size) Hsm5.out hm5 (by exact hc5) (by show 4 ≤ 2 ^ 22; decide) (by show 0 < 4; decide) ?_ ?_).mono ?_
  · intro x hx
    simp only [HD.loudCmds, List.mem_cons, List.not_mem_nil, or_false] at hx
    rcases hx with rfl | rfl | rfl | rfl
    · show b.length ≤ _; omega
    · trivial
    · show c.length ≤ _; omega
    · trivial
  · show b.length + (0 + (c.length + (0 + 0))) ≤ _; omega
  rintro e w6 ⟨g6, c6, rfl, hans6, hb6⟩
  have hlen6 : (HD.loudCmds b c).length = 4 := rfl
  rw [hlen6]
  have Hans6 := Lib.hid hans6
  have Hb6 := Lib.hid (Hb5.out.trans (hb6.mono Hb5.out.size))
  clear hans6 hb6 hlen6 Hsm5
  go_wp2_with fail
  have ho7 := own_new (w := w6) #[.int .i64 7, .slice none 0 0, .int .i64 0, .bool false, .int .i64 4, .slice none 0 0, .int .i64 0, .bool false] 27 4 2 rfl (by decide)
  have hb7 : Below w6.heap.size w6 (w6.alloc (.cells #[.int .i64 7, .slice none 0 0, .int .i64 0, .bool false, .int .i64 4, .slice none 0 0, .int .i64 0, .bool false] 27)) := (Below.refl _ _).alloc (Nat.le_refl _) _
  generalize w6.alloc (.cells #[.int .i64 7, .slice none 0 0, .int .i64 0, .bool false, .int .i64 4, .slice none 0 0, .int .i64 0, .bool false] 27) = w7 at ho7 hb7 ⊢
  refine (whole_any _ _ _ _).mono ?_
  rintro e w8 ⟨rfl, hw8⟩
  have hn8 : ∀ j u, (whCells b (.slice sb b.length cb))[j]? = some u → w8.cell? ((⟨w7.heap.size, 0, none⟩ : Addr).add j) = some u := by
    rw [hw8]; exact news_of_new w7 (whCells b (.slice sb b.length cb)) _
  have hb8 : Below w7.heap.size w7 w8 := by rw [hw8]; exact (Below.refl _ _).alloc (Nat.le_refl _) _
  have Ho8 := Lib.hid (ownsRow_of_heap ho7 fun g hg => hb8.block g (ho7.lt g hg).2)
  have Hb8 := Lib.hid (hb7.trans (hb8.mono hb7.size))
  have Hn8 := Lib.hid hn8
  clear hn8 hb8 hw8 ho7 hb7
  go_wp2_with (at_builtin; (refine wpList_append_own_at _ rfl _ _ 25 rfl w6.heap.size 27 i0 (.agg #[.int .i64 0, .slice none 0 0, .int .i64 0, .bool false]) 4 48 Tryd.underlying25 Hi.out hz0 hz1 hzb rfl (by decide) (.slice (some ⟨w6.heap.size, 0, none⟩) 2 2) 2 [.int .i64 7, .slice none 0 0, .int .i64 0, .bool false, .int .i64 4, .slice none 0 0, .int .i64 0, .bool false] rfl ?a1 ⟨w7.heap.size, 0, none⟩ 2 2 (whCells b (.slice sb b.length cb)) rfl rfl ?a2 ?a3 ?a4 ?a5 ?a6 ?_))
  case a1 => exact Ho8.out
  case a2 => exact Hn8.out
  case a3 => intro u hu; simp [cmdCells, whCells] at hu; rcases hu with rfl | rfl | rfl | rfl | rfl | rfl | rfl | rfl <;> rfl
  case a4 => decide
  case a5 => decide
  case a6 => exact Hb8.out.size
  intro v9 w9 hown9 hgrow9 _ _
  obtain ⟨g9, c9, rfl, hc9, hm9, -, -⟩ := own_some hown9 (by decide)
  have Hb9 := Lib.hid (Hb8.out.grown hgrow9 Hb8.out.size (fun g hg => (Ho8.out.lt g hg).1))
  have hq9 : w9.ownsRow w6.heap.size 27 4 (.slice (some ⟨g9, 0, none⟩) 4 c9) 4 (stepCells [.isOn, .on false, .write b, .close] [.slice none 0 0, .slice none 0 0, .slice sb b.length cb, .slice none 0 0]) := hown9
  have hb10 : Below w9.heap.size w9 (w9.alloc (.cells (midCells).toArray 27)) := (Below.refl _ _).alloc (Nat.le_refl _) _
  have Ho10 := Lib.hid (ownsRow_of_heap hq9 fun g hg => hb10.block g (hq9.lt g hg).2)
  have Hb10 := Lib.hid (Hb9.out.trans (hb10.mono Hb9.out.size))
  clear hown9 hgrow9 Ho8 Hn8 hq9 hb10
  go_wp2_with (at_builtin; (refine wpList_append_own_at _ rfl _ _ 25 rfl w6.heap.size 27 i0 (.agg #[.int .i64 0, .slice none 0 0, .int .i64 0, .bool false]) 4 48 Tryd.underlying25 Hi.out hz0 hz1 hzb rfl (by decide) (.slice (some ⟨g9, 0, none⟩) 4 c9) 4 (stepCells [.isOn, .on false, .write b, .close] [.slice none 0 0, .slice none 0 0, .slice sb b.length cb, .slice none 0 0]) rfl ?a1 ⟨w9.heap.size, 0, none⟩ 3 3 midCells rfl rfl ?a2 ?a3 ?a4 ?a5 ?a6 ?_))
  case a1 => exact Ho10.out
  case a2 => exact news_of_new w9 midCells _
  case a3 => intro u hu; simp [midCells] at hu; rcases hu with rfl | rfl | rfl | rfl | rfl | rfl | rfl | rfl | rfl | rfl | rfl | rfl <;> rfl
  case a4 => decide
  case a5 => decide
  case a6 => exact Hb10.out.size
  intro v11 w11 hown11 hgrow11 _ _
  obtain ⟨g11, c11, rfl, hc11, hm11, -, -⟩ := own_some hown11 (by decide)
  have Hb11 := Lib.hid (Hb10.out.grown hgrow11 Hb10.out.size (fun g hg => (Ho10.out.lt g hg).1))
  have hq11 : w11.ownsRow w6.heap.size 27 4 (.slice (some ⟨g11, 0, none⟩) 7 c11) 7 (stepCells [.isOn, .on false, .write b, .close, .isOn, .on true, .isOn] [.slice none 0 0, .slice none 0 0, .slice sb b.length cb, .slice none 0 0, .slice none 0 0, .slice none 0 0, .slice none 0 0]) := hown11
  have Ho11 := Lib.hid hq11
  clear hown11 hgrow11 Ho10 hq11
  go_wp2_with fail
  refine (whole_any _ _ _ _).mono ?_
  rintro e w12 ⟨rfl, hw12⟩
  have hn12 : ∀ j u, (whCells c (.slice sc c.length cc))[j]? = some u → w12.cell? ((⟨w11.heap.size, 0, none⟩ : Addr).add j) = some u := by
    rw [hw12]; exact news_of_new w11 (whCells c (.slice sc c.length cc)) _
  have hb12 : Below w11.heap.size w11 w12 := by rw [hw12]; exact (Below.refl _ _).alloc (Nat.le_refl _) _
  have Ho12 := Lib.hid (ownsRow_of_heap Ho11.out fun g hg => hb12.block g (Ho11.out.lt g hg).2)
  have Hb12 := Lib.hid (Hb11.out.trans (hb12.mono Hb11.out.size))
  have Hn12 := Lib.hid hn12
  clear hn12 hb12 hw12 Ho11
  go_wp2_with (at_builtin; (refine wpList_append_own_at _ rfl _ _ 25 rfl w6.heap.size 27 i0 (.agg #[.int .i64 0, .slice none 0 0, .int .i64 0, .bool false]) 4 48 Tryd.underlying25 Hi.out hz0 hz1 hzb rfl (by decide) (.slice (some ⟨g11, 0, none⟩) 7 c11) 7 (stepCells [.isOn, .on false, .write b, .close, .isOn, .on true, .isOn] [.slice none 0 0, .slice none 0 0, .slice sb b.length cb, .slice none 0 0, .slice none 0 0, .slice none 0 0, .slice none 0 0]) rfl ?a1 ⟨w11.heap.size, 0, none⟩ 2 2 (whCells c (.slice sc c.length cc)) rfl rfl ?a2 ?a3 ?a4 ?a5 ?a6 ?_))
  case a1 => exact Ho12.out
  case a2 => exact Hn12.out
  case a3 => intro u hu; simp [cmdCells, whCells] at hu; rcases hu with rfl | rfl | rfl | rfl | rfl | rfl | rfl | rfl <;> rfl
  case a4 => decide
  case a5 => decide
  case a6 => exact Hb12.out.size
  intro v13 w13 hown13 hgrow13 _ _
  obtain ⟨g13, c13, rfl, hc13, hm13, -, -⟩ := own_some hown13 (by decide)
  have hb13 := Hb12.out.grown hgrow13 Hb12.out.size (fun g hg => (Ho12.out.lt g hg).1)
  have hb613 := Hb6.out.trans (hb13.mono Hb6.out.size)
  have hsm13 : StepsMem w13 g13 0 (HD.quietCmds b c) [.slice none 0 0, .slice none 0 0, .slice sb b.length cb, .slice none 0 0, .slice none 0 0, .slice none 0 0, .slice none 0 0, .slice sc c.length cc, .slice none 0 0] := by
    refine steps_of_own (B := w6.heap.size) (n := 9) (cap := c13) rfl ?_ ?_
    · exact hown13
    · intro i h1 h2
      match i, h1, h2 with
      | 0, _, _ => exact CmdV.plain rfl (by show 0 < _; decide)
      | 1, _, _ => exact CmdV.plain rfl (by show 0 < _; decide)
      | 2, _, _ => exact CmdV.write_src (by omega) (srcAny_mono Hs.out hb613)
      | 3, _, _ => exact CmdV.plain rfl (by show 0 < _; decide)
      | 4, _, _ => exact CmdV.plain rfl (by show 0 < _; decide)
      | 5, _, _ => exact CmdV.plain rfl (by show 0 < _; decide)
      | 6, _, _ => exact CmdV.plain rfl (by show 0 < _; decide)
      | 7, _, _ => exact CmdV.write_src (by omega) (srcAny_mono Ht.out hb613)
      | 8, _, _ => exact CmdV.plain rfl (by show 0 < _; decide)
  have Hb13 := Lib.hid hb613
  have Hd13 := Lib.hid hb13
  have Hsm13 := Lib.hid hsm13
  clear hown13 hgrow13 hb13 hsm13 Ho12 Hn12 hb613
  go_wp2_with fail
  refine (decode_steps w13 size aI aN aL g13 0 c13 (HD.quietCmds b c) _ hsz ((HE.out.below Hb13.out).mono Hb13.out.size) Hsm13.out hm13 (by exact hc13) (by show 9 ≤ 2 ^ 22; decide) (by show 0 < 9; decide) ?_ ?_).mono ?_
  · intro x hx
    simp only [HD.quietCmds, List.mem_cons, List.not_mem_nil, or_false] at hx
    rcases hx with rfl | rfl | rfl | rfl | rfl | rfl | rfl | rfl | rfl
    · trivial
    · trivial
    · show b.length ≤ _; omega
    · trivial
    · trivial
    · trivial
    · trivial
    · show c.length ≤ _; omega
    · trivial
  · show 0 + (0 + (b.length + (0 + (0 + (0 + (0 + (c.length + (0 + 0)))))))) ≤ _; omega
  rintro e w14 ⟨g14, c14, rfl, hans14, hb14⟩
  have hlen14 : (HD.quietCmds b c).length = 9 := rfl
  rw [hlen14]
  obtain ⟨a0, a1, a2, a3, a4, a5, a6, l, hq, f0, f4, f6, b0, b1, m, hl, himp⟩ := HD.quiet_run (st0 size).st rfl b c
  have hq : HD.drun (st0 size) (HD.quietCmds b c) = a0 :: a1 :: a2 :: a3 :: a4 :: a5 :: a6 :: l := hq
  have hl : HD.drun (st0 size) (HD.loudCmds b c) = b0 :: b1 :: m := hl
  have hll : l.length = 2 := by
    have h1 := HD.drun_len (HD.quietCmds b c) (st0 size)
    rw [hq] at h1; simp only [HD.quietCmds, List.length_cons, List.length_nil] at h1; omega
  have hml : m.length = 2 := by
    have h1 := HD.drun_len (HD.loudCmds b c) (st0 size)
    rw [hl] at h1; simp only [HD.loudCmds, List.length_cons, List.length_nil] at h1; omega
  have hsq := drun_sum0 size (HD.quietCmds b c) (by show 0 + (0 + (b.length + (0 + (0 + (0 + (0 + (c.length + (0 + 0)))))))) ≤ _; omega)
  have hsl := drun_sum0 size (HD.loudCmds b c) (by show b.length + (0 + (c.length + (0 + 0))) ≤ _; omega)
  have hL := (Hans6.out.mono Hd13.out).mono hb14
  have hA := hans14
  rw [hq] at hsq hA
  rw [hl] at hsl hL
  have hc6 : 4 ≤ c6 := by have := hL.len; simp only [List.length_cons, hml] at this; omega
  have hc14 : 9 ≤ c14 := by have := hA.len; simp only [List.length_cons, hll] at this; omega
  have q0 : w14.cell? ⟨g14, 3, none⟩ = some (.bool true) := by
    obtain ⟨fv, lv, nn, -, -, -, h, -⟩ := hA.at 0 a0 rfl
    rw [← f0]; exact h
  have q4 : w14.cell? ⟨g14, 27, none⟩ = some (.bool false) := by
    obtain ⟨fv, lv, nn, -, -, -, h, -⟩ := hA.at 4 a4 rfl
    rw [← f4]; exact h
  have q6 : w14.cell? ⟨g14, 39, none⟩ = some (.bool true) := by
    obtain ⟨fv, lv, nn, -, -, -, h, -⟩ := hA.at 6 a6 rfl
    rw [← f6]; exact h
  obtain ⟨k0, hk0⟩ : ∃ k, k = HD.code b0.err := ⟨_, rfl⟩
  obtain ⟨k1, hk1⟩ : ∃ k, k = HD.code b1.err := ⟨_, rfl⟩
  have p0 : w14.cell? ⟨g6, 4, none⟩ = some (.int .i64 k0) := by
    obtain ⟨fv, lv, nn, -, -, -, -, h, -⟩ := hL.at 0 b0 rfl
    rw [hk0]; exact h
  have p1 : w14.cell? ⟨g6, 10, none⟩ = some (.int .i64 k1) := by
    obtain ⟨fv, lv, nn, -, -, -, -, h, -⟩ := hL.at 1 b1 rfl
    rw [hk1]; exact h
  obtain ⟨fv2, lv2, nn2, r0, -, -, -, r4, -, hf2, -⟩ := hA.at 2 a2 rfl
  obtain ⟨fv3, lv3, nn3, s0, -, -, -, s4, -, hf3, -⟩ := hA.at 3 a3 rfl
  have hrl := hL.read 2 (by simp only [List.length_cons]; omega) (by simp only [List.length_cons, hml]; decide) hsl
  have hrq := fun w' (h : Below w14.heap.size w14 w') => (hA.mono h).read 7 (by simp only [List.length_cons]; omega) (by simp only [List.length_cons, hll]; decide) hsq
  have Hb14 := Lib.hid (Hb13.out.trans (hb14.mono Hb13.out.size))
  have Hk0 := Lib.hid hk0
  have Hk1 := Lib.hid hk1
  have Hf2 := Lib.hid hf2
  have Hf3 := Lib.hid hf3
  have Hrl := Lib.hid hrl
  have Hrq := Lib.hid hrq
  have Hr0 := Lib.hid r0
  have Hr4 := Lib.hid r4
  have Hs0 := Lib.hid s0
  have Hs4 := Lib.hid s4
  have Himp := Lib.hid himp
  have Hml := Lib.hid hml
  have Hsl := Lib.hid hsl
  have Hll := Lib.hid hll
  clear hk0 hk1 hf2 hf3 hrl hrq r0 r4 s0 s4 himp hml hll hb14 hans14 hA hL hsq hsl hq hl f0 f4 f6 hlen14 Hans6 Hd13
  by_cases h0 : k0 = 0
  · by_cases h1 : k1 = 0
    · have d3 : decide (k0 = 0) = true := decide_eq_true h0
      have d4 : decide (k1 = 0) = true := decide_eq_true h1
      have e0 : b0.err = none := by
        cases he : b0.err with
        | none => rfl
        | some er => exact absurd (by rw [← he, ← Hk0.out]; exact h0) (code_ne er)
      have e1 : b1.err = none := by
        cases he : b1.err with
        | none => rfl
        | some er => exact absurd (by rw [← he, ← Hk1.out]; exact h1) (code_ne er)
      obtain ⟨x2, x3, y2, y3, rfl⟩ := Himp.out e0 e1
      have z2 : w14.cell? ⟨g14, 16, none⟩ = some (.int .i64 0) := by have := Hr4.out; rw [x2] at this; exact this
      have z3 : w14.cell? ⟨g14, 22, none⟩ = some (.int .i64 0) := by have := Hs4.out; rw [x3] at this; exact this
      obtain ⟨A2, C2, E2, -, -⟩ := Hf2.out
      obtain ⟨A3, C3, E3, -, -⟩ := Hf3.out
      have u2 : w14.cell? ⟨g14, 12, none⟩ = some (.slice A2 0 C2) := by have := Hr0.out; rw [E2, y2] at this; exact this
      have u3 : w14.cell? ⟨g14, 18, none⟩ = some (.slice A3 0 C3) := by have := Hs0.out; rw [E3, y3] at this; exact this
      have hrl : Calls Tryd.prog 11 #[.slice (some ⟨g6, 12, none⟩) 2 (c6 - 2)] w14 (ReadEnds w14 (HD.rd [] l)) := by
        have := Hrl.out
        simp only [List.length_cons, Hll.out] at this
        exact this
      have hrq : ∀ w', Below w14.heap.size w14 w' → Calls Tryd.prog 11 #[.slice (some ⟨g14, 42, none⟩) 2 (c14 - 7)] w' (ReadEnds w' (HD.rd [] l)) := by
        intro w' h'
        have := Hrq.out w' h'
        simp only [List.length_cons, Hll.out] at this
        exact this
      have Hr := Lib.hid hrl
      have Hq := Lib.hid hrq
      have Z2 := Lib.hid z2
      have Z3 := Lib.hid z3
      have U2 := Lib.hid u2
      have U3 := Lib.hid u3
      obtain ⟨r, hr⟩ : ∃ r, r = HD.rd [] l := ⟨_, rfl⟩
      obtain ⟨cd, hcd⟩ : ∃ x, x = HD.code r.2 := ⟨_, rfl⟩
      obtain ⟨ci, hci⟩ : ∃ x, x = HD.idx r.2 := ⟨_, rfl⟩
      have Hrr := Lib.hid hr
      have Hcd := Lib.hid hcd
      have Hci := Lib.hid hci
      clear hrl hrq E2 E3 x2 x3 y2 y3 z2 z3 u2 u3 hcd hci hr
      go_wp2_with fail
      refine Hr.out.mono ?_
      rintro e w15 ⟨A15, C15, rfl, hown15, hb15⟩
      rw [← Hrr.out, ← Hcd.out, ← Hci.out]
      rw [← Hrr.out] at hown15
      have Hf15 := Lib.hid (FSl.of_own hown15)
      have Hb15 := Lib.hid hb15
      clear hown15 hb15
      go_wp2_with fail
      refine (Hq.out w15 Hb15.out).mono ?_
      rintro e w16 ⟨A16, C16, rfl, hown16, hb16⟩
      rw [← Hrr.out, ← Hcd.out, ← Hci.out]
      rw [← Hrr.out] at hown16
      have hb416 := Hb15.out.trans (hb16.mono Hb15.out.size)
      have Hf16 := Lib.hid (FSl.of_own hown16)
      have Hg16 := Lib.hid (Hf15.out.mono hb16)
      have z2 := (hb416.cell (p := ⟨g14, 16, none⟩) (World.block_lt_of_cell? _ _ Z2.out)).trans Z2.out
      have z3 := (hb416.cell (p := ⟨g14, 22, none⟩) (World.block_lt_of_cell? _ _ Z3.out)).trans Z3.out
      have u2 := (hb416.cell (p := ⟨g14, 12, none⟩) (World.block_lt_of_cell? _ _ U2.out)).trans U2.out
      have u3 := (hb416.cell (p := ⟨g14, 18, none⟩) (World.block_lt_of_cell? _ _ U3.out)).trans U3.out
      have Hb16 := Lib.hid (Hb14.out.trans (hb416.mono Hb14.out.size))
      have hrl62 : r.1.length ≤ 2 ^ 62 := by
        rw [Hrr.out]
        have h1 := rd_len l []
        have h2 := Hsl.out
        simp only [List.map_cons, List.sum_cons] at h2
        simp at h1; omega
      clear hown16 hb16 hb416
      go_wp2_with fail
      refine (equal_any r.1 r.1 _ _ _ Hg16.out Hf16.out hrl62).mono ?_
      rintro e w17 ⟨rfl, hb17⟩
      have he : decide (r.1 = r.1) = true := decide_eq_true rfl
      rw [he]
      have Hb17 := Lib.hid (Hb16.out.trans (hb17.mono Hb16.out.size))
      clear hb17 he
      go_wp2_with fail
      go_ret
      exact ⟨by simp, Hb17.out⟩
    · have d3 : decide (k0 = 0) = true := decide_eq_true h0
      have d4 : decide (k1 = 0) = false := decide_eq_false h1
      go_wp2_with fail
      go_ret
      exact ⟨rfl, Hb14.out⟩
  · have d3 : decide (k0 = 0) = false := decide_eq_false h0
    go_wp2_with fail
    go_ret
    exact ⟨rfl, Hb14.out⟩

theorem walk (n : Int) (sb : Option Addr) (cb : Nat) (b : HD.Bs) (sc : Option Addr) (cc : Nat) (c : HD.Bs) (W : World) (hs : SrcAny sb cb b W) (hz : SrcAny sc cc c W) (aI aN aL : Addr) (hE : Env W.heap.size W aI aN aL) :
    Calls Tryd.prog 6 #[.int .i64 n, .slice sb b.length cb, .slice sc c.length cc] W fun e W' => e = .returned (.bool true) ∧ Below W.heap.size W W' := by
  by_cases h1 : 2147483647 < b.length
  · have d1 : decide ((2147483647 : Int) < (b.length : Int)) = true := by simp; omega
    clear hE hs hz
    go_enter Tryd.func6, Tryd.ntmps6
    go_wp2_with fail
    go_ret
    exact ⟨rfl, Below.refl _ _⟩
  · have d1 : decide ((2147483647 : Int) < (b.length : Int)) = false := by simp; omega
    by_cases h2 : 2147483647 < c.length
    · have d2 : decide ((2147483647 : Int) < (c.length : Int)) = true := by simp; omega
      clear hE hs hz
      go_enter Tryd.func6, Tryd.ntmps6
      go_wp2_with fail
      go_ret
      exact ⟨rfl, Below.refl _ _⟩
    · have d2 : decide ((2147483647 : Int) < (c.length : Int)) = false := by simp; omega
      by_cases h3 : 0 ≤ n ∧ n ≤ 2147483648
      · have d3 := decide_eq_true h3
        by_cases h4 : b.length + c.length ≤ 1048576
        · obtain ⟨m, rfl⟩ := Int.eq_ofNat_of_zero_le h3.1
          exact main m sb cb b sc cc c W hs hz aI aN aL hE (by omega) h4
        · have d4 := decide_eq_false h4
          clear h3
          clear hE hs hz
          go_enter Tryd.func6, Tryd.ntmps6
          go_wp2_with fail
          refine (isSize_any _ _).mono ?_
          rintro e w1 ⟨rfl, hw1⟩
          subst hw1
          rw [d3]
          go_wp2_with fail
          have hq : ∀ j u, [Value.slice sb b.length cb, .slice sc c.length cc][j]? = some u → (w1.alloc (.cells #[.slice sb b.length cb, .slice sc c.length cc] 22)).cell? ⟨w1.heap.size, j, none⟩ = some u := fun j u hu => by
            rw [Lib.cell_of_heap (heap_alloc_new w1 _)]
            simpa using hu
          refine (small_any w1.heap.size sb sc b.length c.length cb cc _ (by exact hq 0 _ rfl) (by exact hq 1 _ rfl) (by omega) (by omega)).mono ?_
          rintro e w2 ⟨rfl, hb2⟩
          rw [d4]
          have hb02 : Below w1.heap.size w1 w2 := ((Below.refl _ w1).alloc (Nat.le_refl _) _).trans (hb2.mono (by simp))
          have Hb2 := Lib.hid hb02
          clear hq hb2 hb02
          go_wp2_with fail
          go_ret
          exact ⟨rfl, Hb2.out⟩
      · have d3 := decide_eq_false h3
        clear h3
        clear hE hs hz
        go_enter Tryd.func6, Tryd.ntmps6
        go_wp2_with fail
        refine (isSize_any _ _).mono ?_
        rintro e w1 ⟨rfl, rfl⟩
        rw [d3]
        go_wp2_with fail
        go_ret
        exact ⟨rfl, Below.refl _ _⟩
theorem tables {W : World} (h : laidMetH Tryd.prog Rows.fnDecodeQuietRow.laid W) : ∃ aI aN aL, Env W.heap.size W aI aN aL := by
  rw [show Rows.fnDecodeQuietRow.laid = envList by unfold envList; rw [← laidCode, ← laidLen]; rfl] at h
  exact env_of h

theorem own : ownKnob Tryd.prog.godebug = none := by kernel_rfl
theorem laidOut : laidOutB Tryd.prog = true := by kernel_rfl
/-- A world for the witness: the settled one, the variables holding what the program's own initialisers lay. -/
noncomputable def laidWorld (os : Os) : World :=
  let w0 := World.holding Tryd.prog os ⟨#[.cells #[.string ⟨#[98, 121, 116, 101, 115, 46, 66, 117, 102, 102, 101, 114, 58, 32, 116, 111, 111, 32, 108, 97, 114, 103, 101]⟩] 123, .cells #[.string ⟨#[104, 112, 97, 99, 107, 58, 32, 115, 116, 114, 105, 110, 103, 32, 116, 111, 111, 32, 108, 111, 110, 103]⟩] 123, .cells #[.string ⟨#[110, 101, 101, 100, 32, 109, 111, 114, 101, 32, 100, 97, 116, 97]⟩] 123, .cells #[.string ⟨#[104, 112, 97, 99, 107, 58, 32, 105, 110, 118, 97, 108, 105, 100, 32, 72, 117, 102, 102, 109, 97, 110, 45, 101, 110, 99, 111, 100, 101, 100, 32, 100, 97, 116, 97]⟩] 123], #[], []⟩
  { w0 with heap := ((((((w0.heap).modify 5 (laidTab #[.iface 121 (.pointer (some ⟨(World.settled Tryd.prog os).heap.size + 0, 0, none⟩))])).modify 1 (laidTab #[.iface 121 (.pointer (some ⟨(World.settled Tryd.prog os).heap.size + 1, 0, none⟩))])).modify 2 (laidTab #[.iface 121 (.pointer (some ⟨(World.settled Tryd.prog os).heap.size + 2, 0, none⟩))])).modify 0 (laidTab #[.iface 121 (.pointer (some ⟨(World.settled Tryd.prog os).heap.size + 3, 0, none⟩))])).modify 3 (laidTab (tabVals Rows.laid_loop_example_pub_g03022_pub_hpack_huffmanCodes))).modify 4 (laidTab (tabVals Rows.laid_loop_example_pub_g03022_pub_hpack_huffmanCodeLen)) }
theorem laid_met (os : Os) (args : Array Value) : laidMetH Tryd.prog Rows.fnDecodeQuietRow.laid ((laidWorld os).forCall (fun _ _ => 0) ⟨#[], args, []⟩).memory :=
  laidMetH_of_parts3 (fuel := 8) (laidMet_of_run3 8 (by kernel_rfl) (by kernel_rfl) (by kernel_rfl)) (by kernel_rfl) (by kernel_rfl)
theorem reads (os : Os) {H : Type} (enc : TypeId × Value → H) : (DataW.whole enc Tryd.prog ((laidWorld os).forCall (fun _ _ => 0) ⟨#[], #[.int .i64 0, .slice none 0 0, .slice none 0 0], []⟩).memory Tryd.f6.params.toList Rows.fnDecodeQuietSpec.vars false (#[.int .i64 0, .slice none 0 0, .slice none 0 0] : Array Value).toList 8).isSome = true := by kernel_rfl

set_option maxRecDepth 100000 in
theorem lifted (os : Os) (started : os.Started) (H : Type) (enc : TypeId × Value → H) (F : Stop.Interp) :
    ReturnsInHanded {} Tryd.checked os 6 .any ((OpenSpec.ofChange Rows.fnDecodeQuietSpec).preRow enc Tryd.prog Tryd.f6 Rows.fnDecodeQuietRow.domain false Rows.fnDecodeQuietRow.laid) (((OpenSpec.ofChange Rows.fnDecodeQuietSpec).at F).post enc Tryd.prog Tryd.f6 false true false false) := by
  obtain ⟨x, hx⟩ := Option.isSome_iff_exists.1 (reads os enc)
  refine returnsInHanded_of_row (C := Tryd.checked) (s := OpenSpec.ofChange Rows.fnDecodeQuietSpec) own started (by kernel_rfl) Tryd.func6
    (witness_row_atRef (enc := enc) (C := Tryd.checked) false (laidWorld os) #[.int .i64 0, .slice none 0 0, .slice none 0 0] rfl (by kernel_rfl) (by kernel_rfl) (by kernel_rfl)
      (OpenSpec.preRow_of_cond 8 hx rfl (fun k hk => by cases hk) (by kernel_rfl) (laid_met os _))) ?_
  intro W base args ds gs before hval hW _ _ _ hL _ _
  have hW' := hW
  obtain ⟨p, q, hA0, hV, rfl, _, _⟩ := hW
  have hA : DataW.TrodAll enc Tryd.prog W 0 (fun _ => true) true Tryd.f6.params.toList args.toList ds p := hA0
  rw [Tryd.params6] at hA hval
  obtain ⟨v0, vs0, d0, ds0, p0, q0, hargs, rfl, rfl, h0, r0⟩ := trodAll_cons hA
  obtain ⟨v1, vs1, d1, ds1, p1, q1, rfl, rfl, rfl, h1, r1⟩ := trodAll_cons r0
  obtain ⟨v2, vs2, d2, ds2, p2, q2, rfl, rfl, rfl, h2, r2⟩ := trodAll_cons r1
  obtain ⟨rfl, rfl, rfl⟩ := trodAll_nil r2
  obtain rfl : args = #[v0, v1, v2] := by cases args; simp_all
  obtain ⟨g0, g1, g2, g3, g4, rfl⟩ := list5 (trodVars_length _ _ _ hV)
  obtain ⟨n, rfl, rfl, rfl, hs0⟩ := open_int Tryd.underlying3 (hval 0 3 v0 rfl rfl) h0
  obtain ⟨sa1, cap1, b, rfl, hs1, hm1⟩ := open_bytes (hval 1 22 v1 rfl rfl) h1
  obtain ⟨sa2, cap2, c, rfl, hs2, hm2⟩ := open_bytes (hval 2 22 v2 rfl rfl) h2
  have ht := tables hL
  refine (walk n sa1 cap1 b sa2 cap2 c W hs1 hs2 ht.choose ht.choose_spec.choose ht.choose_spec.choose_spec.choose ht.choose_spec.choose_spec.choose_spec).mono fun e W' ⟨he, hb⟩ => ?_
  subst he
  exact ⟨_, rfl, post_law laidOut (by rw [Tryd.params6]; intro t ht; simp at ht; rcases ht with rfl | rfl <;> exact ⟨by kernel_rfl, of_decide_eq_true (by kernel_rfl)⟩) rfl Tryd.underlying4 (by kernel_rfl) rfl hW' hb⟩

theorem said : Rows.FnDecodeQuietSaid :=
  OpenClaim.holds_of_cond 6 Tryd.f6 rfl rfl rfl rfl rfl rfl rfl ⟨rfl, rfl, rfl, rfl, rfl⟩ rfl rfl rfl rfl rfl (by kernel_rfl) Tryd.func6 (by kernel_rfl)
    (of_decide_eq_true (by kernel_rfl)) (by unfold Func.isWrapper; first | (rw [if_pos (by decide +kernel)]; kernel_rfl) | (rw [if_neg (by decide +kernel)]; exact ⟨rfl, rfl⟩))
    (fun os started H enc _ F => by rw [OpenClaim.pre_eq_preRow]; exact lifted os started H enc F)

theorem plain (f : FuncId) (fn : Func) (hf : Tryd.pinned.checked.prog.funcNamed "loop.example/pub-g03022/laws.FnDecodeQuiet" = some f) (hfn : Tryd.pinned.checked.prog.funcs[f]? = some fn) :
    true = Tryd.pinned.checked.prog.looks [] ∧ ∀ (j : Nat) t, fn.params[j]? = some t → Tryd.pinned.checked.prog.wantsStandIn t = false := by
  obtain rfl : f = 6 := Option.some.inj ((show Tryd.prog.funcNamed "loop.example/pub-g03022/laws.FnDecodeQuiet" = some 6 by kernel_rfl).symm.trans hf) |>.symm
  obtain rfl : fn = Tryd.f6 := (Option.some.inj (Tryd.func6.symm.trans hfn)).symm
  refine ⟨by kernel_rfl, fun j t ht => ?_⟩
  have hall : ∀ t ∈ Tryd.f6.params.toList, Tryd.prog.wantsStandIn t = false := by
    have : (Tryd.f6.params.toList.all fun t => !Tryd.prog.wantsStandIn t) = true := by kernel_rfl
    intro t ht
    have := List.all_eq_true.1 this t ht
    simpa using this
  exact hall t (by simpa using Array.mem_of_getElem? ht)

/-- THE CARD. -/
theorem card : Rows.FnDecodeQuietCardSaid :=
  Claim7.holds_tied_plain_at .later [] _ _ _ _ said (fun _ h => by cases h) (by kernel_rfl) (fun _ h => by cases h) fnDecodeQuiet_row_tie rfl ⟨rfl, rfl⟩ (by kernel_rfl) rfl plain (by kernel_rfl)
#print axioms card
end Go.Proofs.YtlkpeeoippbdoaaDoor.FnDecodeQuiet
