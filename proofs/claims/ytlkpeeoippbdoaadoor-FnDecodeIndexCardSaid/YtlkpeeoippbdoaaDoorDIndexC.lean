/-
  FnDecodeIndex: an index is read as an entry of the static table; any other one is refused, with its number. No condition.
-/
import Derived.Test.YtlkpeeoippbdoaaDoorMn1
namespace Go.Proofs.YtlkpeeoippbdoaaDoor.FnDecodeIndex
open Go.ChangeShapes Go.WideShapes Go.ChangeAt Go.RowKit

theorem rd_index (n : Nat) (hn : n ≤ 2 ^ 31) : HD.rd [] (HD.drun (st0 4096) (wholeCmds (HD.intg 128 7 n))) = match HD.entAt [] n with
    | none => ([], some (.index n))
    | some e => ([⟨e.1, e.2, false⟩], none) := by
  have h := HD.rvi_intg (above := 128) (bits := 7) (n := n) (r := []) (by decide) (by decide) (by omega)
  rw [List.append_nil] at h
  obtain ⟨x, p, hx, e⟩ := HD.intg_head 128 7 n
  have hx' : x ≤ 127 := by simpa using hx
  have hp : HD.pRepr (st0 4096).st (HD.intg 128 7 n) = match HD.entAt [] n with
    | none => .bad (.index n)
    | some e => .ok [] 4096 (some ⟨e.1, e.2, false⟩) [] := by
    rw [e] at h ⊢
    rw [HD.pRepr, if_pos (by rw [HD.toNat_of (by omega)]; omega), HD.pIdx, h]
    show (match HD.entAt [] n with | none => _ | some e => _) = _
    cases HD.entAt [] n with
    | none => rfl
    | some e => rfl
  have hw : HD.write (st0 4096).st (st0 4096).save (HD.intg 128 7 n) = match HD.entAt [] n with
    | none => ⟨{ (st0 4096).st with first := false }, [], [], some (.index n)⟩
    | some e => ⟨{ (st0 4096).st with first := false }, [⟨e.1, e.2, false⟩], [], none⟩ := by
    rw [HD.write, if_neg (HD.intg_ne _ _ _)]
    show HD.wr (([] : HD.Bs) ++ HD.intg 128 7 n).length _ _ ([] ++ HD.intg 128 7 n) = _
    rw [List.nil_append]
    rw [e] at hp ⊢
    rw [List.length_cons, HD.wr, hp]
    cases HD.entAt [] n with
    | none => rfl
    | some e => simp only [HD.wr_nil]; rfl
  simp only [wholeCmds, HD.drun, HD.dstep, hw, HD.rd]
  cases HD.entAt [] n with
  | none => rfl
  | some e => simp [HD.close]

def OeIs : Option (HD.Bs × HD.Bs) → HD.Fld → Bool → Prop
  | none, _, b => b = false
  | some x, f, b => b = true ∧ f = ⟨x.1, x.2, false⟩
def hfCells' (f : HD.Fld) : Array Value := #[.string ⟨f.name.toArray⟩, .string ⟨f.value.toArray⟩, .bool f.sens]
set_option maxHeartbeats 2000000 in
set_option maxRecDepth 100000 in
theorem main (n : Nat) (W : World) (aI aN aL : Addr) (hE : Env W.heap.size W aI aN aL) (hn : n ≤ 2 ^ 31) :
    Calls Tryd.prog 5 #[.int .i64 (n : Nat)] W fun e W' => e = .returned (.bool true) ∧ Below W.heap.size W W' := by
  have d1 : decide ((n : Int) < 0) = false := by simp
  have d2 : decide ((2147483648 : Int) < (n : Int)) = false := by simp; omega
  have HE := Lib.hid hE
  clear hE
  go_enter Tryd.func5, Tryd.ntmps5
  go_wp2_with fail
  have hb0 : Below W.heap.size W (W.alloc (.cells #[.slice none 0 0, .int .i64 4096] 40)) := (Below.refl _ _).alloc (Nat.le_refl _) _
  have hc0 : (W.alloc (.cells #[.slice none 0 0, .int .i64 4096] 40)).cell? ⟨W.heap.size, 0, none⟩ = some (.slice none 0 0) := (Lib.cell_of_heap (heap_alloc_new W _) 0).trans rfl
  refine (specAt_any W.heap.size n _ (by exact hc0) hn).mono ?_
  rintro e w1 ⟨rfl, hb1⟩
  have Hb1 := Lib.hid (hb0.trans (hb1.mono hb0.size))
  clear hb0 hc0 hb1
  obtain ⟨oe, hoe⟩ : ∃ oe, oe = HD.entAt [] n := ⟨_, rfl⟩
  rw [← hoe]
  obtain ⟨ef, eb, hat⟩ : ∃ (ef : HD.Fld) (eb : Bool), atSpec oe = .tuple #[.agg #[.string ⟨ef.name.toArray⟩, .string ⟨ef.value.toArray⟩, .bool ef.sens], .bool eb] ∧ OeIs oe ef eb := by
    cases oe with
    | none => exact ⟨⟨[], [], false⟩, false, rfl, rfl⟩
    | some x => exact ⟨⟨x.1, x.2, false⟩, true, rfl, rfl, rfl⟩
  obtain ⟨hat, hoe2⟩ := hat
  rw [hat]
  have Hoe := Lib.hid hoe
  have Hoe2 := Lib.hid hoe2
  clear hoe hoe2 hat
  go_wp2_with fail
  have hb2 : Below w1.heap.size w1 (w1.alloc (.cells #[.string ⟨ef.name.toArray⟩, .string ⟨ef.value.toArray⟩, .bool ef.sens] 42)) := (Below.refl _ _).alloc (Nat.le_refl _) _
  have hr2 : Row (w1.alloc (.cells #[.string ⟨ef.name.toArray⟩, .string ⟨ef.value.toArray⟩, .bool ef.sens] 42)) w1.heap.size 3 (fun j => (hfCells' ef).getD j undef) := Row.of_cells w1 (hfCells' ef) 42 (by decide) 3 rfl
  generalize w1.alloc (.cells #[.string ⟨ef.name.toArray⟩, .string ⟨ef.value.toArray⟩, .bool ef.sens] 42) = w2 at hb2 hr2 ⊢
  have Hb2 := Lib.hid (Hb1.out.trans (hb2.mono Hb1.out.size))
  have Hr2 := Lib.hid hr2
  clear hb2 hr2
  refine (specIndexed_any n _ hn).mono ?_
  rintro e w3 ⟨a3, c3, rfl, hown3, hb3⟩
  have hL := HD.intg_len 128 7 n (by omega)
  have hcm := CmdV.write_own (by omega) hown3
  have hst := whole_steps w3 (HD.intg 128 7 n) a3 c3 hcm
  have Hb3 := Lib.hid (Hb2.out.trans (hb3.mono Hb2.out.size))
  have Hr3 := Lib.hid (Hr2.out.below hb3 Hr2.out.lt)
  clear hown3 hcm hb3
  go_wp2_with fail
  refine (whole_any _ _ _ _).mono ?_
  rintro e w4 ⟨rfl, hw4⟩
  rw [← hw4] at hst
  have hb4 : Below w3.heap.size w3 w4 := by rw [hw4]; exact (Below.refl _ _).alloc (Nat.le_refl _) _
  have Hb4 := Lib.hid (Hb3.out.trans (hb4.mono Hb3.out.size))
  have Hr4 := Lib.hid (Hr3.out.below hb4 Hr3.out.lt)
  have Hst := Lib.hid hst
  clear hst hw4 hb4
  go_wp2_with fail
  refine (decode_whole w4 4096 aI aN aL w3.heap.size (HD.intg 128 7 n) _ (by decide) ((HE.out.below Hb4.out).mono Hb4.out.size) Hst.out (by omega)).mono ?_
  rintro e w5 ⟨g5, c5, rfl, hans, hb5⟩
  have hrd := read_whole hans (by omega)
  rw [rd_index n hn, ← Hoe.out] at hrd
  have Hrd := Lib.hid hrd
  have Hb5 := Lib.hid (Hb4.out.trans (hb5.mono Hb4.out.size))
  have Hr5 := Lib.hid (Hr4.out.below hb5 Hr4.out.lt)
  clear hans hrd hb5
  go_wp2_with fail
  refine Hrd.out.mono ?_
  rintro e w6 ⟨a6, c6, rfl, hown6, hb6⟩
  have hf6 := FSl.of_own hown6
  have Hb6 := Lib.hid (Hb5.out.trans (hb6.mono Hb5.out.size))
  have Hr6 := Lib.hid (Hr5.out.below hb6 Hr5.out.lt)
  clear hown6 hb6
  cases oe with
  | none =>
    have hw : IntKind.i64.wrap ((n : Nat) : Int) = (n : Int) := by rw [IntKind.wrap_i64]; omega
    have heb : eb = false := Hoe2.out
    subst heb
    clear hf6
    simp only [List.length_nil, HD.code, HD.idx]
    rw [hw]
    go_wp2_with fail
    go_ret
    exact ⟨ret_bool (by simp), Hb6.out⟩
  | some x =>
    have heb : eb = true := Hoe2.out.1
    have hef : ef = ⟨x.1, x.2, false⟩ := Hoe2.out.2
    subst heb
    have q0 := Hr6.out.cell' (i := 0) (v := .string ⟨ef.name.toArray⟩) (by decide) rfl
    have q1 := Hr6.out.cell' (i := 1) (v := .string ⟨ef.value.toArray⟩) (by decide) rfl
    have q2 := Hr6.out.cell' (i := 2) (v := .bool ef.sens) (by decide) rfl
    have hf6 : FSl w6 (.slice a6 1 c6) [ef] := by rw [hef]; exact hf6
    have Hf6 := Lib.hid hf6
    clear hf6 hef
    simp only [List.length_singleton, HD.code, HD.idx]
    go_wp2_with fail
    have ho := own_new (w := w6) #[.string ⟨ef.name.toArray⟩, .string ⟨ef.value.toArray⟩, .bool ef.sens] 42 3 1 rfl (by decide)
    have hb7 : Below w6.heap.size w6 (w6.alloc (.cells #[.string ⟨ef.name.toArray⟩, .string ⟨ef.value.toArray⟩, .bool ef.sens] 42)) := (Below.refl _ _).alloc (Nat.le_refl _) _
    have hf2 : FSl (w6.alloc (.cells #[.string ⟨ef.name.toArray⟩, .string ⟨ef.value.toArray⟩, .bool ef.sens] 42)) (.slice (some ⟨w6.heap.size, 0, none⟩) 1 1) [ef] := FSl.of_own (e := 42) ho
    refine (equal_any [ef] [ef] _ _ _ (Hf6.out.mono hb7) hf2 (by simp)).mono ?_
    rintro e w9 ⟨rfl, hb9⟩
    have he : decide (([ef] : List HD.Fld) = [ef]) = true := decide_eq_true rfl
    rw [he]
    have Hb9 := Lib.hid ((Hb6.out.trans (hb7.mono Hb6.out.size)).trans (hb9.mono (Nat.le_trans Hb6.out.size hb7.size)))
    clear hb9 ho hf2 hb7
    go_wp2_with fail
    go_ret
    exact ⟨rfl, Hb9.out⟩

theorem walk (n : Int) (W : World) (aI aN aL : Addr) (hE : Env W.heap.size W aI aN aL) :
    Calls Tryd.prog 5 #[.int .i64 n] W fun e W' => e = .returned (.bool true) ∧ Below W.heap.size W W' := by
  by_cases h1 : n < 0
  · have d1 : decide (n < 0) = true := decide_eq_true h1
    clear hE
    go_enter Tryd.func5, Tryd.ntmps5
    go_wp2_with fail
    go_ret
    exact ⟨rfl, Below.refl _ _⟩
  · have d1 : decide (n < 0) = false := decide_eq_false h1
    by_cases h2 : 2147483648 < n
    · have d2 : decide (2147483648 < n) = true := decide_eq_true h2
      clear hE
      go_enter Tryd.func5, Tryd.ntmps5
      go_wp2_with fail
      go_ret
      exact ⟨rfl, Below.refl _ _⟩
    · obtain ⟨m, rfl⟩ := Int.eq_ofNat_of_zero_le (show 0 ≤ n by omega)
      exact main m W aI aN aL hE (by omega)
theorem tables {W : World} (h : laidMetH Tryd.prog Rows.fnDecodeIndexRow.laid W) : ∃ aI aN aL, Env W.heap.size W aI aN aL := by
  rw [show Rows.fnDecodeIndexRow.laid = envList by unfold envList; rw [← laidCode, ← laidLen]; rfl] at h
  exact env_of h

theorem own : ownKnob Tryd.prog.godebug = none := by kernel_rfl
theorem laidOut : laidOutB Tryd.prog = true := by kernel_rfl
/-- A world for the witness: the settled one, the variables holding what the program's own initialisers lay. -/
noncomputable def laidWorld (os : Os) : World :=
  let w0 := World.holding Tryd.prog os ⟨#[.cells #[.string ⟨#[98, 121, 116, 101, 115, 46, 66, 117, 102, 102, 101, 114, 58, 32, 116, 111, 111, 32, 108, 97, 114, 103, 101]⟩] 123, .cells #[.string ⟨#[104, 112, 97, 99, 107, 58, 32, 115, 116, 114, 105, 110, 103, 32, 116, 111, 111, 32, 108, 111, 110, 103]⟩] 123, .cells #[.string ⟨#[110, 101, 101, 100, 32, 109, 111, 114, 101, 32, 100, 97, 116, 97]⟩] 123, .cells #[.string ⟨#[104, 112, 97, 99, 107, 58, 32, 105, 110, 118, 97, 108, 105, 100, 32, 72, 117, 102, 102, 109, 97, 110, 45, 101, 110, 99, 111, 100, 101, 100, 32, 100, 97, 116, 97]⟩] 123], #[], []⟩
  { w0 with heap := ((((((w0.heap).modify 5 (laidTab #[.iface 121 (.pointer (some ⟨(World.settled Tryd.prog os).heap.size + 0, 0, none⟩))])).modify 1 (laidTab #[.iface 121 (.pointer (some ⟨(World.settled Tryd.prog os).heap.size + 1, 0, none⟩))])).modify 2 (laidTab #[.iface 121 (.pointer (some ⟨(World.settled Tryd.prog os).heap.size + 2, 0, none⟩))])).modify 0 (laidTab #[.iface 121 (.pointer (some ⟨(World.settled Tryd.prog os).heap.size + 3, 0, none⟩))])).modify 3 (laidTab (tabVals Rows.laid_loop_example_pub_g03022_pub_hpack_huffmanCodes))).modify 4 (laidTab (tabVals Rows.laid_loop_example_pub_g03022_pub_hpack_huffmanCodeLen)) }
theorem laid_met (os : Os) (args : Array Value) : laidMetH Tryd.prog Rows.fnDecodeIndexRow.laid ((laidWorld os).forCall (fun _ _ => 0) ⟨#[], args, []⟩).memory :=
  laidMetH_of_parts3 (fuel := 8) (laidMet_of_run3 8 (by kernel_rfl) (by kernel_rfl) (by kernel_rfl)) (by kernel_rfl) (by kernel_rfl)
theorem reads (os : Os) {H : Type} (enc : TypeId × Value → H) : (DataW.whole enc Tryd.prog ((laidWorld os).forCall (fun _ _ => 0) ⟨#[], #[.int .i64 0], []⟩).memory Tryd.f5.params.toList Rows.fnDecodeIndexSpec.vars false (#[.int .i64 0] : Array Value).toList 8).isSome = true := by kernel_rfl

set_option maxRecDepth 100000 in
theorem lifted (os : Os) (started : os.Started) (H : Type) (enc : TypeId × Value → H) (F : Stop.Interp) :
    ReturnsInHanded {} Tryd.checked os 5 .any ((OpenSpec.ofChange Rows.fnDecodeIndexSpec).preRow enc Tryd.prog Tryd.f5 Rows.fnDecodeIndexRow.domain false Rows.fnDecodeIndexRow.laid) (((OpenSpec.ofChange Rows.fnDecodeIndexSpec).at F).post enc Tryd.prog Tryd.f5 false true false false) := by
  obtain ⟨x, hx⟩ := Option.isSome_iff_exists.1 (reads os enc)
  refine returnsInHanded_of_row (C := Tryd.checked) (s := OpenSpec.ofChange Rows.fnDecodeIndexSpec) own started (by kernel_rfl) Tryd.func5
    (witness_row_atRef (enc := enc) (C := Tryd.checked) false (laidWorld os) #[.int .i64 0] rfl (by kernel_rfl) (by kernel_rfl) (by kernel_rfl)
      (OpenSpec.preRow_of_cond 8 hx rfl (fun k hk => by cases hk) (by kernel_rfl) (laid_met os _))) ?_
  intro W base args ds gs before hval hW _ _ _ hL _ _
  have hW' := hW
  obtain ⟨p, q, hA0, hV, rfl, _, _⟩ := hW
  have hA : DataW.TrodAll enc Tryd.prog W 0 (fun _ => true) true Tryd.f5.params.toList args.toList ds p := hA0
  rw [Tryd.params5] at hA hval
  obtain ⟨v0, vs0, d0, ds0, p0, q0, hargs, rfl, rfl, h0, r0⟩ := trodAll_cons hA
  obtain ⟨rfl, rfl, rfl⟩ := trodAll_nil r0
  obtain rfl : args = #[v0] := by cases args; simp_all
  obtain ⟨g0, g1, g2, g3, g4, rfl⟩ := list5 (trodVars_length _ _ _ hV)
  obtain ⟨n, rfl, rfl, rfl, hs0⟩ := open_int Tryd.underlying3 (hval 0 3 v0 rfl rfl) h0
  have ht := tables hL
  refine (walk n W ht.choose ht.choose_spec.choose ht.choose_spec.choose_spec.choose ht.choose_spec.choose_spec.choose_spec).mono fun e W' ⟨he, hb⟩ => ?_
  subst he
  exact ⟨_, rfl, post_law laidOut (by rw [Tryd.params5]; intro t ht; simp at ht; subst ht; exact ⟨by kernel_rfl, of_decide_eq_true (by kernel_rfl)⟩) rfl Tryd.underlying4 (by kernel_rfl) rfl hW' hb⟩

theorem said : Rows.FnDecodeIndexSaid :=
  OpenClaim.holds_of_cond 5 Tryd.f5 rfl rfl rfl rfl rfl rfl rfl ⟨rfl, rfl, rfl, rfl, rfl⟩ rfl rfl rfl rfl rfl (by kernel_rfl) Tryd.func5 (by kernel_rfl)
    (of_decide_eq_true (by kernel_rfl)) (by unfold Func.isWrapper; first | (rw [if_pos (by decide +kernel)]; kernel_rfl) | (rw [if_neg (by decide +kernel)]; exact ⟨rfl, rfl⟩))
    (fun os started H enc _ F => by rw [OpenClaim.pre_eq_preRow]; exact lifted os started H enc F)

theorem plain (f : FuncId) (fn : Func) (hf : Tryd.pinned.checked.prog.funcNamed "loop.example/pub-g03022/laws.FnDecodeIndex" = some f) (hfn : Tryd.pinned.checked.prog.funcs[f]? = some fn) :
    true = Tryd.pinned.checked.prog.looks [] ∧ ∀ (j : Nat) t, fn.params[j]? = some t → Tryd.pinned.checked.prog.wantsStandIn t = false := by
  obtain rfl : f = 5 := Option.some.inj ((show Tryd.prog.funcNamed "loop.example/pub-g03022/laws.FnDecodeIndex" = some 5 by kernel_rfl).symm.trans hf) |>.symm
  obtain rfl : fn = Tryd.f5 := (Option.some.inj (Tryd.func5.symm.trans hfn)).symm
  refine ⟨by kernel_rfl, fun j t ht => ?_⟩
  have hall : ∀ t ∈ Tryd.f5.params.toList, Tryd.prog.wantsStandIn t = false := by
    have : (Tryd.f5.params.toList.all fun t => !Tryd.prog.wantsStandIn t) = true := by kernel_rfl
    intro t ht
    have := List.all_eq_true.1 this t ht
    simpa using this
  exact hall t (by simpa using Array.mem_of_getElem? ht)

/-- THE CARD. -/
theorem card : Rows.FnDecodeIndexCardSaid :=
  Claim7.holds_tied_plain_at .later [] _ _ _ _ said (fun _ h => by cases h) (by kernel_rfl) (fun _ h => by cases h) fnDecodeIndex_row_tie rfl ⟨rfl, rfl⟩ (by kernel_rfl) rfl plain (by kernel_rfl)
#print axioms card
end Go.Proofs.YtlkpeeoippbdoaaDoor.FnDecodeIndex
