/-
  FnEncodeOneWrite: a field is written by one call of Write, and nothing else writes. No condition.
-/
import Derived.Test.YtjdmaflkafmmpaaDoorMe8
import Derived.ProofKit
import Derived.OpenShut
namespace Go.Proofs.YtjdmaflkafmmpaaDoor.FnEncodeOneWrite
open Go.ChangeShapes Go.WideShapes Go.ChangeAt Go.RowKit

theorem BRow.form {w : World} {X : Nat → Prop} {v : Value} {t : HD.Bs} (h : BRow w X v t) : ∃ a c, v = .slice a t.length c := by
  rcases h with ⟨h, rfl⟩ | ⟨g, cap, h, -⟩
  · exact ⟨none, 0, h⟩
  · exact ⟨_, _, h⟩
set_option maxHeartbeats 4000000 in
set_option maxRecDepth 100000 in
theorem walk (sa : Option Addr) (cap : Nat) (ss : List StepI) (W : World) (hm : EStepsI W sa ss) (hcap : ss.length ≤ cap) (hn : ss.length ≤ maxLen) (hml : ∀ r ∈ ss, r.fld.name.length ≤ maxLen ∧ r.fld.value.length ≤ maxLen) (ht : LenTab W) (hc : CodeTab W) :
    Calls Tryd.prog 4 #[.slice sa ss.length cap] W fun e W' => e = .returned (.bool true) ∧ Below W.heap.size W W' := by
  have hG : 5 < W.heap.size ∧ 6 < W.heap.size := ⟨LenTab.lt ht, CodeTab.lt hc⟩
  obtain ⟨n, hnn⟩ : ∃ n, n = ss.length := ⟨_, rfl⟩
  have hcap' : n ≤ cap := by omega
  have hnl : n ≤ 9223372036854775807 := by unfold maxLen at hn; omega
  have Hcap := Lib.hid hcap
  have Hn := Lib.hid hn
  have Hml := Lib.hid hml
  have Hm := Lib.hid hm
  have Ht := Lib.hid ht
  have Hc := Lib.hid hc
  have HG := Lib.hid hG
  have Hnn := Lib.hid hnn
  have f4 := fun (w : World) (hb : Below W.heap.size W w) => fits4_any w sa cap ss (hm.mono hb) hcap hn
  have fw := fun (w : World) (hb : Below W.heap.size W w) => few_any w sa cap ss (hm.mono hb) hcap hn hml
  rw [← hnn] at f4 fw ⊢
  have F4 := Lib.hid f4
  have Fw := Lib.hid fw
  clear hcap hn hml hm ht hc hG hnn f4 fw
  go_enter Tryd.func4, Tryd.ntmps4
  go_wp2_with fail
  refine (F4.out _ (Below.refl _ _)).mono ?_
  rintro e w1 ⟨b, rfl, hb1⟩
  have Hb1 := Lib.hid hb1
  clear hb1
  cases b with
  | false =>
    go_wp2_with fail
    go_ret
    exact ⟨rfl, Hb1.out⟩
  | true =>
    go_wp2_with fail
    refine (Fw.out _ Hb1.out).mono ?_
    rintro e w2 ⟨b, rfl, hb2, hfew⟩
    have Hb2 := Lib.hid (Hb1.out.trans (hb2.mono Hb1.out.size))
    clear hb2
    cases b with
    | false =>
      go_wp2_with fail
      go_ret
      exact ⟨rfl, Hb2.out⟩
    | true =>
      have hfe := hfew rfl
      clear hfew
      have hn20 : n ≤ 1048576 := by have := hfe.2; rw [Hnn.out]; omega
      have hrun := encRun_any w2 sa cap (ss.map StepI.r) ((Hm.out.mono Hb2.out).steps hfe) (by rw [List.length_map]; exact Hcap.out) (by rw [List.length_map, ← Hnn.out]; omega) hfe.fine ⟨Nat.lt_of_lt_of_le HG.out.1 Hb2.out.size, Nat.lt_of_lt_of_le HG.out.2 Hb2.out.size⟩ (Ht.out.below Hb2.out HG.out.1) (Hc.out.below Hb2.out HG.out.2)
      rw [List.length_map, ← Hnn.out] at hrun
      have Hfew := Lib.hid hfe
      have Hrun := Lib.hid hrun
      clear hfe hrun
      go_wp2_with fail
      refine Hrun.out.mono ?_
      rintro e w3 ⟨ov, vs, X, A, rfl, hown, hA, hat, hX, -, hb3⟩
      have hcl : ((ss.map StepI.r).map StepR.cmd).length = n := by rw [List.length_map, List.length_map, Hnn.out]
      rw [hcl] at hown
      obtain ⟨oa, oc, rfl⟩ := own_form hown
      have hone := HD.one_run _ _ _ hA
      have hAl : A.length = n := hA.len.trans hcl
      have Hown := Lib.hid hown
      have Hat := Lib.hid hat
      have Hone := Lib.hid hone
      have HAl := Lib.hid hAl
      have Hb3 := Lib.hid (Hb2.out.trans (hb3.mono Hb2.out.size))
      clear hown hA hat hX hb3 hcl hone hAl Hrun
      go_wp2_with fail
      go_loopw [4, 21] (fun _ iv wr => ∃ k : Nat, k ≤ n ∧ iv = .int .i64 (k : Nat) ∧ Below w3.heap.size w3 wr) (fun _ iv _ => n - (intOf iv).toNat)
      case atStart => exact ⟨0, Nat.zero_le _, rfl, Below.refl _ _⟩
      case round =>
        obtain ⟨k, hk, rfl, hb⟩ := hrel
        rcases Nat.lt_or_ge k n with hlt | hge
        · have hkc : k < ss.length := by rw [← Hnn.out]; exact hlt
          have hkN : decide (k < n) = true := decide_eq_true hlt
          have hkI : (k : Int) < (n : Int) := by omega
          have hkcap : k < cap := by omega
          obtain ⟨g, o, rfl, hcell⟩ := Hm.out (fun h => by rw [h] at hkc; simp at hkc)
          obtain ⟨r, hr⟩ : ∃ r, r = ss[k] := ⟨_, rfl⟩
          have hcell := hcell k hkc
          rw [← hr] at hcell
          have hbW : Below W.heap.size W wr := Hb3.out.trans (hb.mono Hb3.out.size)
          have up : ∀ j v, (stepI r)[j]? = some v → wr.cell? ⟨g, o + k * 5 + j, none⟩ = some v := fun j v hv => (hbW.cell (World.block_lt_of_cell? _ _ (hcell j v hv))).trans (hcell j v hv)
          have q0 : wr.cell? ⟨g, o + k * 5, none⟩ = some (.int .i64 r.kind) := up 0 _ rfl
          have q1 : wr.cell? ⟨g, o + k * 5 + 1, none⟩ = some (.string ⟨r.fld.name.toArray⟩) := up 1 _ rfl
          have q2 : wr.cell? ⟨g, o + k * 5 + 2, none⟩ = some (.string ⟨r.fld.value.toArray⟩) := up 2 _ rfl
          have q3 : wr.cell? ⟨g, o + k * 5 + 3, none⟩ = some (.bool r.fld.sens) := up 3 _ rfl
          have q4 : wr.cell? ⟨g, o + k * 5 + 4, none⟩ = some (.int .i64 r.size) := up 4 _ rfl
          obtain ⟨go, hgo, hoc⟩ : ∃ go, oa = some ⟨go, 0, none⟩ ∧ n ≤ oc := by
            rcases Hown.out.2 with ⟨-, h0⟩ | ⟨g', cap', cur, e, -, -, h1, -⟩
            · omega
            · injection e with e1 e2 e3
              exact ⟨g', e1, by omega⟩
          subst hgo
          have hkA : k < A.length := by rw [HAl.out]; exact hlt
          obtain ⟨an, han⟩ : ∃ a, A[k]? = some a := ⟨_, List.getElem?_eq_getElem hkA⟩
          obtain ⟨bv, v0, v1, v2, v3, hbr⟩ := Hat.out k an han
          obtain ⟨ba, bc, rfl⟩ := BRow.form hbr
          have ow : ∀ j v, vs[j]? = some v → wr.cell? ⟨go, j, none⟩ = some v := fun j v hv => by
            have h1 := Hown.out.cells (g := go) rfl j v hv
            rw [Lib.addr_add, Nat.zero_add] at h1
            exact (hb.cell (p := ⟨go, j, none⟩) (World.block_lt_of_cell? _ _ h1)).trans h1
          have p0 := ow _ _ v0
          have p1 := ow _ _ v1
          have p3 := ow _ _ v3
          have hgol : go < wr.heap.size := World.block_lt_of_cell? wr _ p0
          have hcmd : ((ss.map StepI.r).map StepR.cmd)[k]? = some (cmdOf r.kind r.fld r.size.toNat) := by
            rw [List.getElem?_map, List.getElem?_map, List.getElem?_eq_getElem hkc, ← hr]; rfl
          have h1 := Hone.out k _ an hcmd han
          have Hb := Lib.hid (hb.alloc hb.size (.cells (stepI r) 28))
          have hkoc : k < oc := by omega
          have hdr : Below w3.heap.size w3 ((wr.alloc (.cells (stepI r) 28))) := Hb.out
          obtain ⟨L, hL⟩ : ∃ L, L = an.bytes.length := ⟨_, rfl⟩
          obtain ⟨wn, hwn⟩ : ∃ x, x = an.writes := ⟨_, rfl⟩
          rw [← hL] at p0
          rw [← hwn] at p1
          have HL := Lib.hid hL
          have Hwn := Lib.hid hwn
          clear hcell up hr hbW hbr ow v0 v1 v2 v3 hcmd hkA hdr hL hwn han
          by_cases hk0 : r.kind = 0
          · obtain ⟨h2, h3⟩ : an.writes = 1 ∧ an.bytes ≠ [] := by
              rcases h1 with ⟨f, -, h2, h3⟩ | ⟨h2, -⟩
              · exact ⟨h2, h3⟩
              · exact absurd (by unfold cmdOf; rw [if_pos hk0]) (h2 r.fld)
            rw [show wn = 1 by rw [Hwn.out, h2]] at p1
            have p1 : wr.cell? ⟨go, k * 4 + 1, none⟩ = some (.int .i64 1) := p1
            have hLp : 0 < L := by rw [HL.out]; exact List.length_pos_iff.2 h3
            have hLI : (L : Int) ≠ 0 := by omega
            have dL : decide ((L : Int) = 0) = false := decide_eq_false hLI
            have hk0d : decide (r.kind = 0) = true := decide_eq_true hk0
            clear h1 h2 h3 hLp
            go_wp2_with fail
            exact ⟨⟨k + 1, hlt, by go_num, by simpa [stepI, hk0] using Hb.out⟩, by simp [intOf]; omega⟩
          · have h2 : an.writes = 0 := by
              rcases h1 with ⟨f, h2, -⟩ | ⟨-, h2⟩
              · unfold cmdOf at h2
                rw [if_neg hk0] at h2
                split at h2
                · cases h2
                · split at h2 <;> cases h2
              · exact h2
            rw [show wn = 0 by rw [Hwn.out, h2]] at p1
            have p1 : wr.cell? ⟨go, k * 4 + 1, none⟩ = some (.int .i64 0) := p1
            have hk0d : decide (r.kind = 0) = false := decide_eq_false hk0
            clear h1 h2
            go_wp2_with fail
            exact ⟨⟨k + 1, hlt, by go_num, Hb.out⟩, by simp [intOf]; omega⟩
        · obtain rfl : k = n := Nat.le_antisymm hk hge
          go_wp2_with fail
          go_ret
          exact ⟨rfl, Hb3.out.trans (hb.mono Hb3.out.size)⟩
theorem tables {W : World} (h : laidMetH Tryd.prog Rows.fnEncodeOneWriteRow.laid W) : LenTab W ∧ CodeTab W := by
  rw [show Rows.fnEncodeOneWriteRow.laid = [("io.ErrShortWrite", Rows.laid_io_ErrShortWrite), ("loop.example/pub-g03022/pub/hpack.ErrStringLength", Rows.laid_loop_example_pub_g03022_pub_hpack_ErrStringLength), ("loop.example/pub-g03022/pub/hpack.ErrInvalidHuffman", Rows.laid_loop_example_pub_g03022_pub_hpack_ErrInvalidHuffman), ("loop.example/pub-g03022/pub/hpack.huffmanCodes", Lib.tabData .u32 codeInts), ("loop.example/pub-g03022/pub/hpack.huffmanCodeLen", Lib.tabData .u8 lenInts)] by rw [← laidCode, ← laidLen]; rfl] at h
  have h3 := laidMet.tail (laidMet.tail (laidMet.tail h))
  exact ⟨lenTab_of_head (laidMet.tail h3), codeTab_of_head h3⟩

theorem own : ownKnob Tryd.prog.godebug = none := by kernel_rfl
theorem laidOut : laidOutB Tryd.prog = true := by kernel_rfl
/-- A world for the witness: the settled one, the variables holding what the program's own initialisers lay. -/
noncomputable def laidWorld (os : Os) : World :=
  let w0 := World.holding Tryd.prog os ⟨#[.cells #[.string ⟨#[115, 104, 111, 114, 116, 32, 119, 114, 105, 116, 101]⟩] 127, .cells #[.string ⟨#[104, 112, 97, 99, 107, 58, 32, 115, 116, 114, 105, 110, 103, 32, 116, 111, 111, 32, 108, 111, 110, 103]⟩] 127, .cells #[.string ⟨#[104, 112, 97, 99, 107, 58, 32, 105, 110, 118, 97, 108, 105, 100, 32, 72, 117, 102, 102, 109, 97, 110, 45, 101, 110, 99, 111, 100, 101, 100, 32, 100, 97, 116, 97]⟩] 127], #[], []⟩
  { w0 with heap := (((((w0.heap).modify 2 (laidTab #[.iface 125 (.pointer (some ⟨(World.settled Tryd.prog os).heap.size + 0, 0, none⟩))])).modify 1 (laidTab #[.iface 125 (.pointer (some ⟨(World.settled Tryd.prog os).heap.size + 1, 0, none⟩))])).modify 0 (laidTab #[.iface 125 (.pointer (some ⟨(World.settled Tryd.prog os).heap.size + 2, 0, none⟩))])).modify 6 (laidTab (tabVals Rows.laid_loop_example_pub_g03022_pub_hpack_huffmanCodes))).modify 5 (laidTab (tabVals Rows.laid_loop_example_pub_g03022_pub_hpack_huffmanCodeLen)) }
theorem laid_met (os : Os) (args : Array Value) : laidMetH Tryd.prog Rows.fnEncodeOneWriteRow.laid ((laidWorld os).forCall (fun _ _ => 0) ⟨#[], args, []⟩).memory :=
  laidMetH_of_parts3 (fuel := 8) (laidMet_of_run3 8 (by kernel_rfl) (by kernel_rfl) (by kernel_rfl)) (by kernel_rfl) (by kernel_rfl)
theorem reads (os : Os) {H : Type} (enc : TypeId × Value → H) : (DataW.whole enc Tryd.prog ((laidWorld os).forCall (fun _ _ => 0) ⟨#[], #[.slice none 0 0], []⟩).memory Tryd.f4.params.toList Rows.fnEncodeOneWriteSpec.vars false (#[.slice none 0 0] : Array Value).toList 8).isSome = true := by kernel_rfl

set_option maxRecDepth 100000 in
theorem lifted (os : Os) (started : os.Started) (H : Type) (enc : TypeId × Value → H) (F : Stop.Interp) :
    ReturnsInHanded {} Tryd.checked os 4 .any ((OpenSpec.ofChange Rows.fnEncodeOneWriteSpec).preRow enc Tryd.prog Tryd.f4 Rows.fnEncodeOneWriteRow.domain false Rows.fnEncodeOneWriteRow.laid) (((OpenSpec.ofChange Rows.fnEncodeOneWriteSpec).at F).post enc Tryd.prog Tryd.f4 false true false false) := by
  obtain ⟨x, hx⟩ := Option.isSome_iff_exists.1 (reads os enc)
  refine returnsInHanded_of_row (C := Tryd.checked) (s := OpenSpec.ofChange Rows.fnEncodeOneWriteSpec) own started (by kernel_rfl) Tryd.func4
    (witness_row_atRef (enc := enc) (C := Tryd.checked) false (laidWorld os) #[.slice none 0 0] rfl (by kernel_rfl) (by kernel_rfl) (by kernel_rfl)
      (OpenSpec.preRow_of_cond 8 hx rfl (fun k hk => by cases hk) (by kernel_rfl) (laid_met os _))) ?_
  intro W base args ds gs before hval hW _ _ _ hL _ _
  have hW' := hW
  obtain ⟨p, q, hA0, hV, rfl, _, _⟩ := hW
  have hA : DataW.TrodAll enc Tryd.prog W 0 (fun _ => true) true Tryd.f4.params.toList args.toList ds p := hA0
  rw [Tryd.params4] at hA hval
  obtain ⟨v0, vs0, d0, ds0, p0, q0, hargs, rfl, rfl, h0, r0⟩ := trodAll_cons hA
  obtain ⟨rfl, rfl, rfl⟩ := trodAll_nil r0
  obtain rfl : args = #[v0] := by cases args; simp_all
  obtain ⟨g0, g1, g2, g3, rfl⟩ := list4 (trodVars_length _ _ _ hV)
  obtain ⟨sa0, cap0, ss, rfl, hs0, hc0, hm0, hl0⟩ := open_steps (hval 0 24 v0 rfl rfl) h0
  have ht := tables hL
  refine (walk sa0 cap0 ss W hs0 hc0 hm0 hl0 ht.1 ht.2).mono fun e W' ⟨he, hb⟩ => ?_
  subst he
  exact ⟨_, rfl, post_law laidOut (by rw [Tryd.params4]; intro t ht; simp at ht; subst ht; exact ⟨by kernel_rfl, of_decide_eq_true (by kernel_rfl)⟩) rfl Tryd.underlying4 (by kernel_rfl) rfl hW' hb⟩

theorem said : Rows.FnEncodeOneWriteSaid :=
  OpenClaim.holds_of_cond 4 Tryd.f4 rfl rfl rfl rfl rfl rfl rfl ⟨rfl, rfl, rfl, rfl, rfl⟩ rfl rfl rfl rfl rfl (by kernel_rfl) Tryd.func4 (by kernel_rfl)
    (of_decide_eq_true (by kernel_rfl)) (by unfold Func.isWrapper; first | (rw [if_pos (by decide +kernel)]; kernel_rfl) | (rw [if_neg (by decide +kernel)]; exact ⟨rfl, rfl⟩))
    (fun os started H enc _ F => by rw [OpenClaim.pre_eq_preRow]; exact lifted os started H enc F)

theorem plain (f : FuncId) (fn : Func) (hf : Tryd.pinned.checked.prog.funcNamed "loop.example/pub-g03022/laws.FnEncodeOneWrite" = some f) (hfn : Tryd.pinned.checked.prog.funcs[f]? = some fn) :
    true = Tryd.pinned.checked.prog.looks [] ∧ ∀ (j : Nat) t, fn.params[j]? = some t → Tryd.pinned.checked.prog.wantsStandIn t = false := by
  obtain rfl : f = 4 := Option.some.inj ((show Tryd.prog.funcNamed "loop.example/pub-g03022/laws.FnEncodeOneWrite" = some 4 by kernel_rfl).symm.trans hf) |>.symm
  obtain rfl : fn = Tryd.f4 := (Option.some.inj (Tryd.func4.symm.trans hfn)).symm
  refine ⟨by kernel_rfl, fun j t ht => ?_⟩
  have hall : ∀ t ∈ Tryd.f4.params.toList, Tryd.prog.wantsStandIn t = false := by
    have : (Tryd.f4.params.toList.all fun t => !Tryd.prog.wantsStandIn t) = true := by kernel_rfl
    intro t ht
    have := List.all_eq_true.1 this t ht
    simpa using this
  exact hall t (by simpa using Array.mem_of_getElem? ht)

/-- THE CARD. -/
theorem card : Rows.FnEncodeOneWriteCardSaid :=
  Claim7.holds_tied_plain_at .later [] _ _ _ _ said (fun _ h => by cases h) (by kernel_rfl) (fun _ h => by cases h) fnEncodeOneWrite_row_tie rfl ⟨rfl, rfl⟩ (by kernel_rfl) rfl plain (by kernel_rfl)
#print axioms card
end Go.Proofs.YtjdmaflkafmmpaaDoor.FnEncodeOneWrite
