/-
  FnEncodeTogether: one decoder reads what the encoder wrote, the same fields in order. No condition.
-/
import Derived.Test.YtjdmaflkafmmpaaDoorMt7
import Derived.ProofKit
import Derived.OpenShut
namespace Go.Proofs.YtjdmaflkafmmpaaDoor.FnEncodeTogether
open Go.ChangeShapes Go.WideShapes Go.ChangeAt Go.RowKit

theorem tables {W : World} (h : laidMetH Tryd.prog Rows.fnEncodeTogetherRow.laid W) : ∃ aI aN aL, Env W.heap.size W aI aN aL := by
  rw [show Rows.fnEncodeTogetherRow.laid = ("io.ErrShortWrite", Rows.laid_io_ErrShortWrite) :: envList by unfold envList; rw [← laidCode, ← laidLen]; rfl] at h
  exact env_of (laidMet.tail h)

theorem own : ownKnob Tryd.prog.godebug = none := by kernel_rfl
theorem laidOut : laidOutB Tryd.prog = true := by kernel_rfl
/-- A world for the witness: the settled one, the variables holding what the program's own initialisers lay. -/
noncomputable def laidWorld (os : Os) : World :=
  let w0 := World.holding Tryd.prog os ⟨#[.cells #[.string ⟨#[115, 104, 111, 114, 116, 32, 119, 114, 105, 116, 101]⟩] 127, .cells #[.string ⟨#[98, 121, 116, 101, 115, 46, 66, 117, 102, 102, 101, 114, 58, 32, 116, 111, 111, 32, 108, 97, 114, 103, 101]⟩] 127, .cells #[.string ⟨#[104, 112, 97, 99, 107, 58, 32, 115, 116, 114, 105, 110, 103, 32, 116, 111, 111, 32, 108, 111, 110, 103]⟩] 127, .cells #[.string ⟨#[110, 101, 101, 100, 32, 109, 111, 114, 101, 32, 100, 97, 116, 97]⟩] 127, .cells #[.string ⟨#[104, 112, 97, 99, 107, 58, 32, 105, 110, 118, 97, 108, 105, 100, 32, 72, 117, 102, 102, 109, 97, 110, 45, 101, 110, 99, 111, 100, 101, 100, 32, 100, 97, 116, 97]⟩] 127], #[], []⟩
  { w0 with heap := (((((((w0.heap).modify 2 (laidTab #[.iface 125 (.pointer (some ⟨(World.settled Tryd.prog os).heap.size + 0, 0, none⟩))])).modify 4 (laidTab #[.iface 125 (.pointer (some ⟨(World.settled Tryd.prog os).heap.size + 1, 0, none⟩))])).modify 1 (laidTab #[.iface 125 (.pointer (some ⟨(World.settled Tryd.prog os).heap.size + 2, 0, none⟩))])).modify 3 (laidTab #[.iface 125 (.pointer (some ⟨(World.settled Tryd.prog os).heap.size + 3, 0, none⟩))])).modify 0 (laidTab #[.iface 125 (.pointer (some ⟨(World.settled Tryd.prog os).heap.size + 4, 0, none⟩))])).modify 6 (laidTab (tabVals Rows.laid_loop_example_pub_g03022_pub_hpack_huffmanCodes))).modify 5 (laidTab (tabVals Rows.laid_loop_example_pub_g03022_pub_hpack_huffmanCodeLen)) }
theorem laid_met (os : Os) (args : Array Value) : laidMetH Tryd.prog Rows.fnEncodeTogetherRow.laid ((laidWorld os).forCall (fun _ _ => 0) ⟨#[], args, []⟩).memory :=
  laidMetH_of_parts3 (fuel := 8) (laidMet_of_run3 8 (by kernel_rfl) (by kernel_rfl) (by kernel_rfl)) (by kernel_rfl) (by kernel_rfl)
theorem reads (os : Os) {H : Type} (enc : TypeId × Value → H) : (DataW.whole enc Tryd.prog ((laidWorld os).forCall (fun _ _ => 0) ⟨#[], #[.slice none 0 0], []⟩).memory Tryd.f3.params.toList Rows.fnEncodeTogetherSpec.vars false (#[.slice none 0 0] : Array Value).toList 8).isSome = true := by kernel_rfl

set_option maxRecDepth 100000 in
theorem lifted (os : Os) (started : os.Started) (H : Type) (enc : TypeId × Value → H) (F : Stop.Interp) :
    ReturnsInHanded {} Tryd.checked os 3 .any ((OpenSpec.ofChange Rows.fnEncodeTogetherSpec).preRow enc Tryd.prog Tryd.f3 Rows.fnEncodeTogetherRow.domain false Rows.fnEncodeTogetherRow.laid) (((OpenSpec.ofChange Rows.fnEncodeTogetherSpec).at F).post enc Tryd.prog Tryd.f3 false true false false) := by
  obtain ⟨x, hx⟩ := Option.isSome_iff_exists.1 (reads os enc)
  refine returnsInHanded_of_row (C := Tryd.checked) (s := OpenSpec.ofChange Rows.fnEncodeTogetherSpec) own started (by kernel_rfl) Tryd.func3
    (witness_row_atRef (enc := enc) (C := Tryd.checked) false (laidWorld os) #[.slice none 0 0] rfl (by kernel_rfl) (by kernel_rfl) (by kernel_rfl)
      (OpenSpec.preRow_of_cond 8 hx rfl (fun k hk => by cases hk) (by kernel_rfl) (laid_met os _))) ?_
  intro W base args ds gs before hval hW _ _ _ hL _ _
  have hW' := hW
  obtain ⟨p, q, hA0, hV, rfl, _, _⟩ := hW
  have hA : DataW.TrodAll enc Tryd.prog W 0 (fun _ => true) true Tryd.f3.params.toList args.toList ds p := hA0
  rw [Tryd.params3] at hA hval
  obtain ⟨v0, vs0, d0, ds0, p0, q0, hargs, rfl, rfl, h0, r0⟩ := trodAll_cons hA
  obtain ⟨rfl, rfl, rfl⟩ := trodAll_nil r0
  obtain rfl : args = #[v0] := by cases args; simp_all
  obtain ⟨g0, g1, g2, g3, g4, rfl⟩ := list5 (trodVars_length _ _ _ hV)
  obtain ⟨sa0, cap0, fs, rfl, hs0, hc0, hm0, hl0⟩ := open_flds (hval 0 22 v0 rfl rfl) h0
  have ht := tables hL
  refine (walk sa0 cap0 fs W hs0 hc0 hm0 hl0 ht.choose ht.choose_spec.choose ht.choose_spec.choose_spec.choose ht.choose_spec.choose_spec.choose_spec).mono fun e W' ⟨he, hb⟩ => ?_
  subst he
  exact ⟨_, rfl, post_law laidOut (by rw [Tryd.params3]; intro t ht; simp at ht; subst ht; exact ⟨by kernel_rfl, of_decide_eq_true (by kernel_rfl)⟩) rfl Tryd.underlying4 (by kernel_rfl) rfl hW' hb⟩

theorem said : Rows.FnEncodeTogetherSaid :=
  OpenClaim.holds_of_cond 3 Tryd.f3 rfl rfl rfl rfl rfl rfl rfl ⟨rfl, rfl, rfl, rfl, rfl⟩ rfl rfl rfl rfl rfl (by kernel_rfl) Tryd.func3 (by kernel_rfl)
    (of_decide_eq_true (by kernel_rfl)) (by unfold Func.isWrapper; first | (rw [if_pos (by decide +kernel)]; kernel_rfl) | (rw [if_neg (by decide +kernel)]; exact ⟨rfl, rfl⟩))
    (fun os started H enc _ F => by rw [OpenClaim.pre_eq_preRow]; exact lifted os started H enc F)

theorem plain (f : FuncId) (fn : Func) (hf : Tryd.pinned.checked.prog.funcNamed "loop.example/pub-g03022/laws.FnEncodeTogether" = some f) (hfn : Tryd.pinned.checked.prog.funcs[f]? = some fn) :
    true = Tryd.pinned.checked.prog.looks [] ∧ ∀ (j : Nat) t, fn.params[j]? = some t → Tryd.pinned.checked.prog.wantsStandIn t = false := by
  obtain rfl : f = 3 := Option.some.inj ((show Tryd.prog.funcNamed "loop.example/pub-g03022/laws.FnEncodeTogether" = some 3 by kernel_rfl).symm.trans hf) |>.symm
  obtain rfl : fn = Tryd.f3 := (Option.some.inj (Tryd.func3.symm.trans hfn)).symm
  refine ⟨by kernel_rfl, fun j t ht => ?_⟩
  have hall : ∀ t ∈ Tryd.f3.params.toList, Tryd.prog.wantsStandIn t = false := by
    have : (Tryd.f3.params.toList.all fun t => !Tryd.prog.wantsStandIn t) = true := by kernel_rfl
    intro t ht
    have := List.all_eq_true.1 this t ht
    simpa using this
  exact hall t (by simpa using Array.mem_of_getElem? ht)

/-- THE CARD. -/
theorem card : Rows.FnEncodeTogetherCardSaid :=
  Claim7.holds_tied_plain_at .later [] _ _ _ _ said (fun _ h => by cases h) (by kernel_rfl) (fun _ h => by cases h) fnEncodeTogether_row_tie rfl ⟨rfl, rfl⟩ (by kernel_rfl) rfl plain (by kernel_rfl)
#print axioms card
end Go.Proofs.YtjdmaflkafmmpaaDoor.FnEncodeTogether
