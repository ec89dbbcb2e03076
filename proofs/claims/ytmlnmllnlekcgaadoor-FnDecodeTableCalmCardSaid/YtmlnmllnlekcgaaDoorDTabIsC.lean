/-
  FnDecodeTable: fields that were added are found from index 62 on, the newest first, as long as the table has room; other indexes are refused with their number. No condition; the variables that are left open may hold anything. The row assumes a calm tape and lets the clocks go on (it reads none).
-/
import Derived.Test.YtmlnmllnlekcgaaDoorMb11
import Derived.ProofKit
import Derived.Clock
import Derived.OpenShut
namespace Go.Proofs.YtmlnmllnlekcgaaDoor.FnDecodeTable
open Go.ChangeShapes Go.WideShapes Go.ChangeAt Go.RowKit

theorem tables {W : World} (h : laidMetH Tryd.prog Rows.fnDecodeTableRow.laid W) : ∃ aN, EnvO W.heap.size W aN aN aN := envO_of h

theorem own : ownKnob Tryd.prog.godebug = none := by kernel_rfl
theorem laidOut : laidOutB Tryd.prog = true := by kernel_rfl
/-- A world for the witness: the settled one, the variables holding what the program's own initialisers lay. -/
noncomputable def laidWorld (os : Os) : World :=
  let w0 := World.holding Tryd.prog os ⟨#[.cells #[.string ⟨#[110, 101, 101, 100, 32, 109, 111, 114, 101, 32, 100, 97, 116, 97]⟩] 113], #[], []⟩
  { w0 with heap := (w0.heap).modify 1 (laidTab #[.iface 111 (.pointer (some ⟨(World.settled Tryd.prog os).heap.size + 0, 0, none⟩))]) }
theorem laid_met (os : Os) (args : Array Value) : laidMetH Tryd.prog Rows.fnDecodeTableRow.laid ((laidWorld os).forCall (fun _ _ => 0) ⟨#[], args, []⟩).memory :=
  laidMetH_of_parts3 (fuel := 8) (laidMet_of_run3 8 (by kernel_rfl) (by kernel_rfl) (by kernel_rfl)) (by kernel_rfl) (by kernel_rfl)
theorem reads (os : Os) {H : Type} (enc : TypeId × Value → H) : (DataW.whole enc Tryd.prog ((laidWorld os).forCall (fun _ _ => 0) ⟨#[], #[.int .i64 0, .slice none 0 0, .int .i64 0], []⟩).memory Tryd.f3.params.toList Rows.fnDecodeTableSpec.vars false (#[.int .i64 0, .slice none 0 0, .int .i64 0] : Array Value).toList 8).isSome = true := by kernel_rfl

set_option maxRecDepth 100000 in
theorem lifted (os : Os) (started : os.Started) (H : Type) (enc : TypeId × Value → H) (F : Stop.Interp) :
    ReturnsInHanded { calm := true } Tryd.checked os 3 .any (fun w args => (Rows.fnDecodeTableSpec.pre enc Tryd.prog Tryd.f3 [] false w args ∧ laidMetH Tryd.prog Rows.fnDecodeTableRow.laid w) ∧ sizedMet enc Tryd.prog Tryd.f3 (OpenSpec.ofChange Rows.fnDecodeTableSpec) false w args)
      ((OpenSpec.ofChange Rows.fnDecodeTableSpec).postWith enc Tryd.prog Tryd.f3 F (outsideKept [.timePasses]) false true false) := by
  obtain ⟨x, hx⟩ := Option.isSome_iff_exists.1 (reads os enc)
  have hrow := OpenSpec.preRow_of_cond (enc := enc) (P := Tryd.prog) (f := Tryd.f3) (s := OpenSpec.ofChange Rows.fnDecodeTableSpec) (conds := []) (apart := false) (laid := Rows.fnDecodeTableRow.laid) 8 hx rfl (fun k hk => by cases hk) (by kernel_rfl) (laid_met os _)
  have hok : Input.okWideB Tryd.checked.prog ((laidWorld os).forCall (fun _ _ => 0) ⟨#[], #[.int .i64 0, .slice none 0 0, .int .i64 0], []⟩) 3 ⟨#[], #[.int .i64 0, .slice none 0 0, .int .i64 0], []⟩ = true := by kernel_rfl
  refine Go.Clock.returns_of_change (C := Tryd.checked) (X := (fun w _ => laidMetH Tryd.prog Rows.fnDecodeTableRow.laid w)) (fun _ _ _ hh h => h.of_heap hh) own started (by kernel_rfl) Tryd.func3
    ⟨laidWorld os, fun _ _ => 0, ⟨#[], #[.int .i64 0, .slice none 0 0, .int .i64 0], []⟩, rfl, World.shaped_of_RefB (by kernel_rfl) (by kernel_rfl), (Input.okWide_of_okWideB (base := 0) hok).1, (Input.okWide_of_okWideB hok).2, hrow, Go.Clock.calm_noughts _ rfl⟩ ?_
  intro W base args ds gs before hval hW _ _ hL _
  have hW' := hW
  obtain ⟨p, q, hA0, hV, rfl, _, _⟩ := hW
  have hA : DataW.TrodAll enc Tryd.prog W 0 (fun _ => true) true Tryd.f3.params.toList args.toList ds p := hA0
  rw [Tryd.params3] at hA hval
  obtain ⟨v0, vs0, d0, ds0, p0, q0, hargs, rfl, rfl, h0, r0⟩ := trodAll_cons hA
  obtain ⟨v1, vs1, d1, ds1, p1, q1, rfl, rfl, rfl, h1, r1⟩ := trodAll_cons r0
  obtain ⟨v2, vs2, d2, ds2, p2, q2, rfl, rfl, rfl, h2, r2⟩ := trodAll_cons r1
  obtain ⟨rfl, rfl, rfl⟩ := trodAll_nil r2
  obtain rfl : args = #[v0, v1, v2] := by cases args; simp_all
  obtain ⟨g0, g1, g2, g3, g4, g5, rfl⟩ := list6 (trodVars_length _ _ _ hV)
  obtain ⟨size, rfl, rfl, rfl, hs0⟩ := open_int Tryd.underlying3 (hval 0 3 v0 rfl rfl) h0
  obtain ⟨sa1, cap1, l, rfl, hs1, hc1, hm1, hl1⟩ := open_flds (hval 1 22 v1 rfl rfl) h1
  obtain ⟨k, rfl, rfl, rfl, hs2⟩ := open_int Tryd.underlying3 (hval 2 3 v2 rfl rfl) h2
  have ht := tables hL
  refine (walk size sa1 cap1 l k W hs1 hc1 hm1 hl1 ht.choose ht.choose_spec).mono fun e W' ⟨he, hb⟩ => ?_
  subst he
  exact ⟨_, rfl, post_law (W' := { W' with os := W.os }) laidOut (by rw [Tryd.params3]; intro t ht; simp at ht; rcases ht with rfl | rfl | rfl <;> exact ⟨by kernel_rfl, of_decide_eq_true (by kernel_rfl)⟩) rfl Tryd.underlying4 (by kernel_rfl) rfl hW' (Go.Clock.Since.of_below hb).2, (Go.Clock.Since.of_below hb).1⟩

theorem said : Rows.FnDecodeTableSaid :=
  Go.Clock.holds_of_wide_time 3 Tryd.f3 rfl rfl rfl rfl rfl rfl rfl ⟨rfl, rfl, rfl, rfl, rfl⟩ rfl rfl rfl rfl rfl (by kernel_rfl) Tryd.func3 (by kernel_rfl)
    (of_decide_eq_true (by kernel_rfl)) (by unfold Func.isWrapper; first | (rw [if_pos (by decide +kernel)]; kernel_rfl) | (rw [if_neg (by decide +kernel)]; exact ⟨rfl, rfl⟩))
    (fun os started H enc _ F => lifted os started H enc F)

theorem plain (f : FuncId) (fn : Func) (hf : Tryd.pinned.checked.prog.funcNamed "loop.example/pub-g03022/laws.FnDecodeTable" = some f) (hfn : Tryd.pinned.checked.prog.funcs[f]? = some fn) :
    true = Tryd.pinned.checked.prog.looks [] ∧ ∀ (j : Nat) t, fn.params[j]? = some t → Tryd.pinned.checked.prog.wantsStandIn t = false := by
  obtain rfl : f = 3 := Option.some.inj ((show Tryd.prog.funcNamed "loop.example/pub-g03022/laws.FnDecodeTable" = some 3 by kernel_rfl).symm.trans hf) |>.symm
  obtain rfl : fn = Tryd.f3 := (Option.some.inj (Tryd.func3.symm.trans hfn)).symm
  refine ⟨by kernel_rfl, fun j t ht => ?_⟩
  have hall : ∀ t ∈ Tryd.f3.params.toList, Tryd.prog.wantsStandIn t = false := by
    have : (Tryd.f3.params.toList.all fun t => !Tryd.prog.wantsStandIn t) = true := by kernel_rfl
    intro t ht
    have := List.all_eq_true.1 this t ht
    simpa using this
  exact hall t (by simpa using Array.mem_of_getElem? ht)

/-- THE CARD. -/
theorem card : Rows.FnDecodeTableCardSaid :=
  Claim7.holds_tied_plain_at .later [] _ _ _ _ said (fun _ h => by cases h) (by kernel_rfl) (fun _ h => by cases h) fnDecodeTable_row_tie rfl ⟨rfl, rfl⟩ (by kernel_rfl) rfl plain (by kernel_rfl)
#print axioms card
end Go.Proofs.YtmlnmllnlekcgaaDoor.FnDecodeTable
