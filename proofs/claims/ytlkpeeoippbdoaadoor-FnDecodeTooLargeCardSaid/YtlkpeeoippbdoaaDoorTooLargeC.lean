/-
  FnDecodeTooLarge: a size update is refused, as a decoding error, just if it is greater than the decoder was told. No condition.
-/
import Derived.Test.YtlkpeeoippbdoaaDoorMg8
namespace Go.Proofs.YtlkpeeoippbdoaaDoor.FnDecodeTooLarge
open Go.ChangeShapes Go.WideShapes Go.ChangeAt Go.RowKit

/-- Only size updates stand in the block. -/
def OnlyUpd (s : HD.St) (v : HD.Bs) : Prop := v = [] ∨ ∃ n, n ≤ 2 ^ 31 ∧ s.first = true ∧ v = HD.intg 32 5 n
theorem steps {B d : Nat} {M : Emitter} {aI aN aL : Addr} : Steps B d M aI aN aL OnlyUpd where
  ok s v h hne := by
    obtain ⟨n, hn, hf, rfl⟩ := h.resolve_left hne
    obtain ⟨x, p, hx, e⟩ := HD.intg_head 32 5 n
    rw [e]
    intro w p' l g o cap hL hE hb hu h11 hc _
    have hx' : x ≤ 31 := by simpa using hx
    exact reprUpd_any B w d g o cap M s l p' aI aN aL _ p hL hE hb hu h11 hc (by rw [HD.toNat_of (by omega)]; omega) (by rw [HD.toNat_of (by omega)]; omega)
  next s v ents max o rest h hr := by
    refine Or.inl ?_
    rcases h with rfl | ⟨n, hn, hf, rfl⟩
    · cases hr
    · have := HD.pRepr_upd (s := s) (n := n) (by omega) hf []
      rw [List.append_nil, hr] at this
      split at this
      · cases this
      · injection this

theorem infoDS : (Tryd.prog.info? 27).map (fun i => (i.zero, i.size, i.bytes)) = some (some (.agg #[.int .i64 0, .slice none 0 0, .int .i64 0, .bool false]), 4, 48) := by kernel_rfl
/-- A row of cells that was just laid. -/
theorem own_new {w : World} (cs : Array Value) (t : TypeId) (s n : Nat) (hs : cs.size = n * s) (hn : n ≤ maxLen) : (w.alloc (.cells cs t)).ownsRow w.heap.size t s (.slice (some ⟨w.heap.size, 0, none⟩) n n) n cs.toList := by
  refine ⟨by simpa using hs, Or.inr ⟨w.heap.size, n, cs, rfl, Nat.le_refl _, heap_alloc_new w _, Nat.le_refl _, hn, hs, ?_⟩⟩
  rw [List.take_of_length_le (by simp [hs])]

set_option maxHeartbeats 2000000 in
set_option maxRecDepth 100000 in
theorem main (size allowed n : Nat) (W : World) (aI aN aL : Addr) (hE : Env W.heap.size W aI aN aL) (h1 : size ≤ 2 ^ 31) (h2 : allowed ≤ 2 ^ 31) (h3 : n ≤ 2 ^ 31) :
    Calls Tryd.prog 7 #[.int .i64 (size : Nat), .int .i64 (allowed : Nat), .int .i64 (n : Nat)] W fun e W' => e = .returned (.bool true) ∧ Below W.heap.size W W' := by
  have HE := Lib.hid hE
  clear hE
  have d1 : decide (0 ≤ (size : Int) ∧ (size : Int) ≤ 2147483648) = true := decide_eq_true ⟨by omega, by omega⟩
  have d2 : decide (0 ≤ (allowed : Int) ∧ (allowed : Int) ≤ 2147483648) = true := decide_eq_true ⟨by omega, by omega⟩
  have d3 : decide (0 ≤ (n : Int) ∧ (n : Int) ≤ 2147483648) = true := decide_eq_true ⟨by omega, by omega⟩
  go_enter Tryd.func7, Tryd.ntmps7
  go_wp2_with fail
  refine (isSize_any _ _).mono ?_
  rintro e w1 ⟨rfl, rfl⟩
  rw [d1]
  go_wp2_with fail
  refine (isSize_any _ _).mono ?_
  rintro e w1 ⟨rfl, rfl⟩
  rw [d2]
  go_wp2_with fail
  refine (isSize_any _ _).mono ?_
  rintro e w1 ⟨rfl, rfl⟩
  rw [d3]
  go_wp2_with fail
  have hst0 := own_new (w := w1) #[.int .i64 6, .slice none 0 0, .int .i64 (allowed : Nat), .bool false] 27 4 1 rfl (by decide)
  have Hst0 := Lib.hid hst0
  clear hst0
  refine (update_any n _ h3).mono ?_
  rintro e w2 ⟨a, cap, rfl, hown, hb2⟩
  have Hown := Lib.hid hown
  have Hb2 := Lib.hid hb2
  clear hown hb2
  go_wp2_with fail
  refine (whole_any _ _ _ _).mono ?_
  rintro e w3 ⟨rfl, hw3⟩
  obtain ⟨i0, hi, hz0, hz1, hzb⟩ := info_parts infoDS
  have hb3 : Below w2.heap.size w2 w3 := by rw [hw3]; exact (Below.refl _ _).alloc (Nat.le_refl _) _
  have hnew : ∀ j u, (stepCells [.write (HD.intg 32 5 n), .close] [.slice a (HD.intg 32 5 n).length cap, .slice none 0 0])[j]? = some u → w3.cell? ((⟨w2.heap.size, 0, none⟩ : Addr).add j) = some u := by
    rw [hw3]
    exact news_of_new w2 [.int .i64 0, .slice a (HD.intg 32 5 n).length cap, .int .i64 0, .bool false, .int .i64 1, .slice none 0 0, .int .i64 0, .bool false] _
  have hone : ∀ u ∈ stepCells [.write (HD.intg 32 5 n), .close] [.slice a (HD.intg 32 5 n).length cap, .slice none 0 0], u.oneCell' = true := by
    intro u hu
    simp [stepCells, cmdCells, kindOf, flagOf] at hu
    rcases hu with rfl | rfl | rfl | rfl | rfl | rfl | rfl | rfl <;> rfl
  have hs2 : w1.heap.size + 1 ≤ w2.heap.size := by have := Hb2.out.size; simpa using this
  have hs3 := hb3.size
  have hst3 : w3.ownsRow w1.heap.size 27 4 (.slice (some ⟨w1.heap.size, 0, none⟩) 1 1) 1 (stepCells [.allow allowed] [.slice none 0 0]) := by
    refine ownsRow_of_heap Hst0.out fun g hg => ?_
    have hlt := (Hst0.out.lt g hg).2
    exact (hb3.block g (by have := Hb2.out.size; omega)).trans (Hb2.out.block g hlt)
  have Hst3 := Lib.hid hst3
  have Hnew := Lib.hid hnew
  have Hone := Lib.hid hone
  have Hb3 := Lib.hid hb3
  have Hi := Lib.hid hi
  clear hst3 hnew hone hb3 hw3 hi
  go_wp2_with (at_builtin; (refine wpList_append_own_at _ rfl _ _ 25 rfl w1.heap.size 27 i0 (.agg #[.int .i64 0, .slice none 0 0, .int .i64 0, .bool false]) 4 48 Tryd.underlying25 Hi.out hz0 hz1 hzb rfl (by decide) (.slice (some ⟨w1.heap.size, 0, none⟩) 1 1) 1 (stepCells [.allow allowed] [.slice none 0 0]) rfl ?a1 ⟨w2.heap.size, 0, none⟩ 2 2 (stepCells [.write (HD.intg 32 5 n), .close] [.slice a (HD.intg 32 5 n).length cap, .slice none 0 0]) rfl rfl ?a2 ?a3 ?a4 ?a5 ?a6 ?_))
  case a1 => exact Hst3.out
  case a2 => exact Hnew.out
  case a3 => exact Hone.out
  case a4 => decide
  case a5 => decide
  case a6 => omega
  intro v4 w4 hown4 hgrow4 _ hat4
  rw [← stepCells_append [.allow allowed] _ [.slice none 0 0] _ rfl] at hown4
  obtain ⟨g4, cap4, rfl⟩ : ∃ g4 cap4, v4 = .slice (some ⟨g4, 0, none⟩) 3 cap4 := by
    rcases hown4.2 with ⟨e, h0⟩ | ⟨g2, cap2, cur, e, -⟩
    · cases h0
    · exact ⟨g2, cap2, e⟩
  have hb13 : Below w1.heap.size w1 w3 := (((Below.refl _ w1).alloc (Nat.le_refl _) _).trans (Hb2.out.mono (by simp))).trans (Hb3.out.mono (by omega))
  have hb4 : Below w1.heap.size w1 w4 := hb13.grown hgrow4 (by omega) (fun g hg => (Hst3.out.lt g hg).1)
  have hsz4 : w3.heap.size ≤ w4.heap.size := hgrow4.size
  have hcv : CmdV w4 (.write (HD.intg 32 5 n)) (.slice a (HD.intg 32 5 n).length cap) := by
    have hl : (HD.intg 32 5 n).length < 2 ^ 40 := by have := HD.intg_len 32 5 n (by omega); omega
    have h1 := ownsRow_of_heap (w' := w4) Hown.out fun g hg => by
      have hlt := (Hown.out.lt g hg)
      refine (hgrow4.block g (by omega) (fun e => ?_)).trans (Hb3.out.block g hlt.2)
      have : g = w1.heap.size := Option.some.inj e
      have h2 := hlt.1
      rw [World.size_alloc] at h2
      omega
    exact CmdV.write_own hl h1
  have hsm : StepsMem w4 g4 0 (HD.tooCmds allowed n) [.slice none 0 0, .slice a (HD.intg 32 5 n).length cap, .slice none 0 0] := by
    refine steps_of_own rfl hown4 ?_
    intro i h h'
    match i, h, h' with
    | 0, _, _ => exact CmdV.plain rfl (by show allowed < _; omega)
    | 1, _, _ => exact hcv
    | 2, _, _ => exact CmdV.plain rfl (by show 0 < _; decide)
  have hcap4 : 3 ≤ cap4 ∧ cap4 ≤ maxLen := by
    rcases hown4.2 with ⟨e, h0⟩ | ⟨g2, cap2, cur, e, -, -, k1, k2, -⟩
    · cases h0
    · injection e with e1 e2 e3
      subst e3
      exact ⟨k1, k2⟩
  have hE4 : Env w4.heap.size w4 aI aN aL := (HE.out.below hb4).mono hb4.size
  have Hsm := Lib.hid hsm
  have Hb4 := Lib.hid hb4
  have HE4 := Lib.hid hE4
  have Hcap4 := Lib.hid hcap4
  clear hsm hb4 hE4 hown4 hgrow4 hat4 hb13 hcv hcap4
  go_wp2_with fail
  refine (run_any w4 size aI aN aL g4 0 cap4 (HD.tooCmds allowed n) _ h1 HE4.out Hsm.out Hcap4.out.2 Hcap4.out.1 (by simp [HD.tooCmds]) ?_ ?_).mono ?_
  · exact ⟨cmdOk_allow h2, cmdOk_write steps (Or.inr ⟨n, h3, rfl, rfl⟩), cmdOk_close, trivial⟩
  · have := HD.intg_len 32 5 n (by omega)
    show 0 + ((HD.intg 32 5 n).length + (0 + 0)) ≤ _
    omega
  rintro e w5 ⟨ov, vs, X, rfl, hown5, hat5, hX5, -, hb5⟩
  have hlen : (HD.drun ⟨⟨[], size, size, true, true⟩, []⟩ (HD.tooCmds allowed n)).length = 3 := by rw [HD.drun_len]; rfl
  rw [hlen] at hown5
  obtain ⟨g5, cap5, rfl⟩ : ∃ g5 cap5, ov = .slice (some ⟨g5, 0, none⟩) 3 cap5 := by
    rcases hown5.2 with ⟨e, h0⟩ | ⟨g2, cap2, cur, e, -⟩
    · cases h0
    · exact ⟨g2, cap2, e⟩
  have hcap5 : 3 ≤ cap5 := by
    rcases hown5.2 with ⟨e, h0⟩ | ⟨g2, cap2, cur, e, -, -, k1, k2, -⟩
    · cases h0
    · injection e with e1 e2 e3
      subst e3
      exact k1
  have hrd := read_any w5 (HD.drun ⟨⟨[], size, size, true, true⟩, []⟩ (HD.tooCmds allowed n)) g5 0 cap5 vs X (by rw [hlen]; decide) (Nat.le_trans (HD.drun_sum _ _) (by
      have := HD.intg_len 32 5 n (by omega)
      show 0 + (0 + ((HD.intg 32 5 n).length + (0 + 0))) ≤ _
      omega)) (fun j v e => by
      have := hown5.cells (g := g5) rfl j v e
      rwa [Lib.addr_add] at this) (by rw [hlen]; exact hcap5) hat5 (fun g h => (hX5 g h).1)
  rw [hlen, HD.tooLarge_rd _ _ _ (by omega)] at hrd
  have Hrd := Lib.hid hrd
  have Hb5 := Lib.hid hb5
  clear hown5 hat5 hX5 hb5 hlen hrd
  go_wp2_with fail
  refine Hrd.out.mono ?_
  rintro e w6 ⟨a6, cap6, rfl, -, hb6⟩
  have hfin : Below w1.heap.size w1 w6 := (Hb4.out.trans (Hb5.out.mono Hb4.out.size)).trans (hb6.mono (Nat.le_trans Hb4.out.size Hb5.out.size))
  have Hfin := Lib.hid hfin
  clear hb6 hfin
  rcases Nat.lt_or_ge allowed n with hlt | hge
  · have d4 : decide ((allowed : Int) < (n : Int)) = true := decide_eq_true (by omega)
    rw [if_pos hlt]
    simp only [List.length_nil, HD.code, HD.idx]
    go_wp2_with fail
    go_ret
    exact ⟨rfl, Hfin.out⟩
  · have d4 : decide ((allowed : Int) < (n : Int)) = false := decide_eq_false (by omega)
    rw [if_neg (by omega)]
    simp only [List.length_nil, HD.code, HD.idx]
    go_wp2_with fail
    go_ret
    exact ⟨rfl, Hfin.out⟩

theorem walk (size allowed n : Int) (W : World) (aI aN aL : Addr) (hE : Env W.heap.size W aI aN aL) :
    Calls Tryd.prog 7 #[.int .i64 size, .int .i64 allowed, .int .i64 n] W fun e W' => e = .returned (.bool true) ∧ Below W.heap.size W W' := by
  by_cases h1 : 0 ≤ size ∧ size ≤ 2147483648
  · by_cases h2 : 0 ≤ allowed ∧ allowed ≤ 2147483648
    · by_cases h3 : 0 ≤ n ∧ n ≤ 2147483648
      · obtain ⟨s, rfl⟩ := Int.eq_ofNat_of_zero_le h1.1
        obtain ⟨a, rfl⟩ := Int.eq_ofNat_of_zero_le h2.1
        obtain ⟨m, rfl⟩ := Int.eq_ofNat_of_zero_le h3.1
        exact main s a m W aI aN aL hE (by omega) (by omega) (by omega)
      · have d1 := decide_eq_true h1
        have d2 := decide_eq_true h2
        have d3 := decide_eq_false h3
        clear h1 h2 h3 hE
        go_enter Tryd.func7, Tryd.ntmps7
        go_wp2_with fail
        refine (isSize_any _ _).mono ?_
        rintro e w1 ⟨rfl, rfl⟩
        rw [d1]
        go_wp2_with fail
        refine (isSize_any _ _).mono ?_
        rintro e w1 ⟨rfl, rfl⟩
        rw [d2]
        go_wp2_with fail
        refine (isSize_any _ _).mono ?_
        rintro e w1 ⟨rfl, rfl⟩
        rw [d3]
        go_wp2_with fail
        go_ret
        exact ⟨rfl, Below.refl _ _⟩
    · have d1 := decide_eq_true h1
      have d2 := decide_eq_false h2
      clear h1 h2 hE
      go_enter Tryd.func7, Tryd.ntmps7
      go_wp2_with fail
      refine (isSize_any _ _).mono ?_
      rintro e w1 ⟨rfl, rfl⟩
      rw [d1]
      go_wp2_with fail
      refine (isSize_any _ _).mono ?_
      rintro e w1 ⟨rfl, rfl⟩
      rw [d2]
      go_wp2_with fail
      go_ret
      exact ⟨rfl, Below.refl _ _⟩
  · have d1 := decide_eq_false h1
    clear h1 hE
    go_enter Tryd.func7, Tryd.ntmps7
    go_wp2_with fail
    refine (isSize_any _ _).mono ?_
    rintro e w1 ⟨rfl, rfl⟩
    rw [d1]
    go_wp2_with fail
    go_ret
    exact ⟨rfl, Below.refl _ _⟩

theorem tables {W : World} (h : laidMetH Tryd.prog Rows.fnDecodeTooLargeRow.laid W) : ∃ aI aN aL, Env W.heap.size W aI aN aL := by
  rw [show Rows.fnDecodeTooLargeRow.laid = envList by unfold envList; rw [← laidCode, ← laidLen]; rfl] at h
  exact env_of h

theorem own : ownKnob Tryd.prog.godebug = none := by kernel_rfl
theorem laidOut : laidOutB Tryd.prog = true := by kernel_rfl
/-- A world for the witness: the settled one, the variables holding what the program's own initialisers lay. -/
noncomputable def laidWorld (os : Os) : World :=
  let w0 := World.holding Tryd.prog os ⟨#[.cells #[.string ⟨#[98, 121, 116, 101, 115, 46, 66, 117, 102, 102, 101, 114, 58, 32, 116, 111, 111, 32, 108, 97, 114, 103, 101]⟩] 123, .cells #[.string ⟨#[104, 112, 97, 99, 107, 58, 32, 115, 116, 114, 105, 110, 103, 32, 116, 111, 111, 32, 108, 111, 110, 103]⟩] 123, .cells #[.string ⟨#[110, 101, 101, 100, 32, 109, 111, 114, 101, 32, 100, 97, 116, 97]⟩] 123, .cells #[.string ⟨#[104, 112, 97, 99, 107, 58, 32, 105, 110, 118, 97, 108, 105, 100, 32, 72, 117, 102, 102, 109, 97, 110, 45, 101, 110, 99, 111, 100, 101, 100, 32, 100, 97, 116, 97]⟩] 123], #[], []⟩
  { w0 with heap := ((((((w0.heap).modify 5 (laidTab #[.iface 121 (.pointer (some ⟨(World.settled Tryd.prog os).heap.size + 0, 0, none⟩))])).modify 1 (laidTab #[.iface 121 (.pointer (some ⟨(World.settled Tryd.prog os).heap.size + 1, 0, none⟩))])).modify 2 (laidTab #[.iface 121 (.pointer (some ⟨(World.settled Tryd.prog os).heap.size + 2, 0, none⟩))])).modify 0 (laidTab #[.iface 121 (.pointer (some ⟨(World.settled Tryd.prog os).heap.size + 3, 0, none⟩))])).modify 3 (laidTab (tabVals Rows.laid_loop_example_pub_g03022_pub_hpack_huffmanCodes))).modify 4 (laidTab (tabVals Rows.laid_loop_example_pub_g03022_pub_hpack_huffmanCodeLen)) }
theorem laid_met (os : Os) (args : Array Value) : laidMetH Tryd.prog Rows.fnDecodeTooLargeRow.laid ((laidWorld os).forCall (fun _ _ => 0) ⟨#[], args, []⟩).memory :=
  laidMetH_of_parts3 (fuel := 8) (laidMet_of_run3 8 (by kernel_rfl) (by kernel_rfl) (by kernel_rfl)) (by kernel_rfl) (by kernel_rfl)
theorem reads (os : Os) {H : Type} (enc : TypeId × Value → H) : (DataW.whole enc Tryd.prog ((laidWorld os).forCall (fun _ _ => 0) ⟨#[], #[.int .i64 0, .int .i64 0, .int .i64 0], []⟩).memory Tryd.f7.params.toList Rows.fnDecodeTooLargeSpec.vars false (#[.int .i64 0, .int .i64 0, .int .i64 0] : Array Value).toList 8).isSome = true := by kernel_rfl

set_option maxRecDepth 100000 in
theorem lifted (os : Os) (started : os.Started) (H : Type) (enc : TypeId × Value → H) (F : Stop.Interp) :
    ReturnsInHanded {} Tryd.checked os 7 .any ((OpenSpec.ofChange Rows.fnDecodeTooLargeSpec).preRow enc Tryd.prog Tryd.f7 Rows.fnDecodeTooLargeRow.domain false Rows.fnDecodeTooLargeRow.laid) (((OpenSpec.ofChange Rows.fnDecodeTooLargeSpec).at F).post enc Tryd.prog Tryd.f7 false true false false) := by
  obtain ⟨x, hx⟩ := Option.isSome_iff_exists.1 (reads os enc)
  refine returnsInHanded_of_row (C := Tryd.checked) (s := OpenSpec.ofChange Rows.fnDecodeTooLargeSpec) own started (by kernel_rfl) Tryd.func7
    (witness_row_atRef (enc := enc) (C := Tryd.checked) false (laidWorld os) #[.int .i64 0, .int .i64 0, .int .i64 0] rfl (by kernel_rfl) (by kernel_rfl) (by kernel_rfl)
      (OpenSpec.preRow_of_cond 8 hx rfl (fun k hk => by cases hk) (by kernel_rfl) (laid_met os _))) ?_
  intro W base args ds gs before hval hW _ _ _ hL _ _
  have hW' := hW
  obtain ⟨p, q, hA0, hV, rfl, _, _⟩ := hW
  have hA : DataW.TrodAll enc Tryd.prog W 0 (fun _ => true) true Tryd.f7.params.toList args.toList ds p := hA0
  rw [Tryd.params7] at hA hval
  obtain ⟨v0, vs0, d0, ds0, p0, q0, hargs, rfl, rfl, h0, r0⟩ := trodAll_cons hA
  obtain ⟨v1, vs1, d1, ds1, p1, q1, rfl, rfl, rfl, h1, r1⟩ := trodAll_cons r0
  obtain ⟨v2, vs2, d2, ds2, p2, q2, rfl, rfl, rfl, h2, r2⟩ := trodAll_cons r1
  obtain ⟨rfl, rfl, rfl⟩ := trodAll_nil r2
  obtain rfl : args = #[v0, v1, v2] := by cases args; simp_all
  obtain ⟨g0, g1, g2, g3, g4, rfl⟩ := list5 (trodVars_length _ _ _ hV)
  obtain ⟨a, rfl, rfl, rfl, hs0⟩ := open_int Tryd.underlying3 (hval 0 3 v0 rfl rfl) h0
  obtain ⟨b, rfl, rfl, rfl, hs1⟩ := open_int Tryd.underlying3 (hval 1 3 v1 rfl rfl) h1
  obtain ⟨c, rfl, rfl, rfl, hs2⟩ := open_int Tryd.underlying3 (hval 2 3 v2 rfl rfl) h2
  have ht := tables hL
  refine (walk a b c W ht.choose ht.choose_spec.choose ht.choose_spec.choose_spec.choose ht.choose_spec.choose_spec.choose_spec).mono fun e W' ⟨he, hb⟩ => ?_
  subst he
  exact ⟨_, rfl, post_law laidOut (by rw [Tryd.params7]; intro t ht; simp at ht; subst ht; exact ⟨by kernel_rfl, of_decide_eq_true (by kernel_rfl)⟩) rfl Tryd.underlying4 (by kernel_rfl) rfl hW' hb⟩

theorem said : Rows.FnDecodeTooLargeSaid :=
  OpenClaim.holds_of_cond 7 Tryd.f7 rfl rfl rfl rfl rfl rfl rfl ⟨rfl, rfl, rfl, rfl, rfl⟩ rfl rfl rfl rfl rfl (by kernel_rfl) Tryd.func7 (by kernel_rfl)
    (of_decide_eq_true (by kernel_rfl)) (by unfold Func.isWrapper; first | (rw [if_pos (by decide +kernel)]; kernel_rfl) | (rw [if_neg (by decide +kernel)]; exact ⟨rfl, rfl⟩))
    (fun os started H enc _ F => by rw [OpenClaim.pre_eq_preRow]; exact lifted os started H enc F)

theorem plain (f : FuncId) (fn : Func) (hf : Tryd.pinned.checked.prog.funcNamed "loop.example/pub-g03022/laws.FnDecodeTooLarge" = some f) (hfn : Tryd.pinned.checked.prog.funcs[f]? = some fn) :
    true = Tryd.pinned.checked.prog.looks [] ∧ ∀ (j : Nat) t, fn.params[j]? = some t → Tryd.pinned.checked.prog.wantsStandIn t = false := by
  obtain rfl : f = 7 := Option.some.inj ((show Tryd.prog.funcNamed "loop.example/pub-g03022/laws.FnDecodeTooLarge" = some 7 by kernel_rfl).symm.trans hf) |>.symm
  obtain rfl : fn = Tryd.f7 := (Option.some.inj (Tryd.func7.symm.trans hfn)).symm
  refine ⟨by kernel_rfl, fun j t ht => ?_⟩
  have hall : ∀ t ∈ Tryd.f7.params.toList, Tryd.prog.wantsStandIn t = false := by
    have : (Tryd.f7.params.toList.all fun t => !Tryd.prog.wantsStandIn t) = true := by kernel_rfl
    intro t ht
    have := List.all_eq_true.1 this t ht
    simpa using this
  exact hall t (by simpa using Array.mem_of_getElem? ht)

/-- THE CARD. -/
theorem card : Rows.FnDecodeTooLargeCardSaid :=
  Claim7.holds_tied_plain_at .later [] _ _ _ _ said (fun _ h => by cases h) (by kernel_rfl) (fun _ h => by cases h) fnDecodeTooLarge_row_tie rfl ⟨rfl, rfl⟩ (by kernel_rfl) rfl plain (by kernel_rfl)
#print axioms card
end Go.Proofs.YtlkpeeoippbdoaaDoor.FnDecodeTooLarge
