/-
  The law FnHuffmanBack is proved whole: a text comes back from its codes (at most 2^20 bytes, as the law itself says); the variables that are listed are tied. No other condition.
-/
import Derived.Test.YtnemkaiaieomfaaDoorHText
import Derived.Test.YtnemkaiaieomfaaDoorLaidTabs
import Derived.ProofKit
import Derived.OpenShut
namespace Go.Proofs.YtnemkaiaieomfaaDoor.FnHuffmanBack
open Go.ChangeShapes Go.WideShapes Go.ChangeAt Go.RowKit
open Go.ChangeMaps (open_string)

theorem srcAny_of_own {w : World} {B cap : Nat} {sa : Option Addr} {v : List UInt8} (h : w.ownsRow B 5 1 (.slice sa v.length cap) v.length (Lib.byteCells v)) : SrcAny sa cap v w := by
  rcases h.2 with ⟨e, hn⟩ | ⟨g, cap', cur, e, _, hg, _, _, hcs, htk⟩
  · injection e with e1 e2 e3
    exact Or.inl ⟨e1, e3, List.eq_nil_of_length_eq_zero hn⟩
  · injection e with e1 _ _
    refine Or.inr ⟨_, e1, fun q u hu => ?_⟩
    rw [show (⟨g, 0, none⟩ : Addr).add q = ⟨g, q, none⟩ by rw [Lib.addr_add, Nat.zero_add], Lib.cell_of_heap hg, ← Array.getElem?_toList]
    have hq : q < v.length := by
      have := (List.getElem?_eq_some_iff.1 hu).1
      rwa [byteCells_len] at this
    have h1 : (cur.toList.take (v.length * 1))[q]? = (Lib.byteCells v)[q]? := by rw [htk]
    rw [List.getElem?_take, if_pos (by omega)] at h1
    rw [h1, hu]

set_option maxRecDepth 100000 in
theorem walk (s : ByteArray) (a : Addr) (w : World) (hl : LenTab w) (hc : CodeTab w) (he : w.cell? ⟨2, 0, none⟩ = some (.iface 85 (.pointer (some a)))) :
    Calls Tryd.prog 4 #[.string s] w fun e w' => e = .returned (.bool true) ∧ Below w.heap.size w w' := by
  have hG : 2 < w.heap.size := World.block_lt_of_cell? w ⟨2, 0, none⟩ he
  by_cases h1 : s.size ≤ 2147483647
  · by_cases h2 : s.size ≤ 1048576
    · have hd1 : decide ((2147483647 : Int) < (s.size : Int)) = false := by simp; omega
      have hd2 : decide ((1048576 : Int) < (s.size : Int)) = false := by simp; omega
      have Hl := Lib.hid hl
      have Hc := Lib.hid hc
      have He := Lib.hid he
      clear hl hc he
      have hq := nbits_le s.data.toList
      have hq2 := HP.length_henc s.data.toList
      have hlen : (HP.henc s.data.toList).length ≤ 134217728 := by
        rw [hq2]; unfold HP.hencLen
        simp only [Array.length_toList, ByteArray.size_data] at hq
        omega
      have Hback := Lib.hid (HP.hdec_henc s.data.toList)
      clear hq hq2
      go_enter Tryd.func4, Tryd.ntmps4
      go_wp2_with fail
      refine (appNil_any s _ (by omega) Hl.out Hc.out).mono ?_
      rintro e w1 ⟨a1, c1, rfl, hnew, hb1⟩
      have Hb1 := Lib.hid hb1
      have Hsrc := Lib.hid (srcAny_of_own hnew)
      clear hb1 hnew
      generalize HP.henc s.data.toList = v at *
      go_wp2_with fail
      refine (text_any c1 a1 v a _ hlen Hsrc.out (Hl.out.below Hb1.out (LenTab.lt Hl.out)) (Hc.out.below Hb1.out (CodeTab.lt Hc.out)) ((Hb1.out.cell (p := ⟨2, 0, none⟩) hG).trans He.out)).mono ?_
      rintro e w2 ⟨rfl, hb2⟩
      have Hb2 := Lib.hid (Hb1.out.trans (hb2.mono Hb1.out.size))
      clear hb2
      rw [Hback.out, show textOf (some s.data.toList) = .tuple #[.string s, .int .i64 0] from rfl]
      go_wp2_with fail
      go_ret
      exact ⟨by simp, Hb2.out⟩
    · have hd1 : decide ((2147483647 : Int) < (s.size : Int)) = false := by simp; omega
      have hd2 : decide ((1048576 : Int) < (s.size : Int)) = true := by simp; omega
      go_enter Tryd.func4, Tryd.ntmps4
      go_wp2_with fail
      go_ret
      exact ⟨rfl, Below.refl _ _⟩
  · have hd1 : decide ((2147483647 : Int) < (s.size : Int)) = true := by simp; omega
    go_enter Tryd.func4, Tryd.ntmps4
    go_wp2_with fail
    go_ret
    exact ⟨rfl, Below.refl _ _⟩

theorem gInv : Tryd.prog.globalNamed "loop.example/pub-g03022/pub/hpack.ErrInvalidHuffman" = some 2 := by kernel_rfl
theorem gInvType : (Tryd.prog.globals[2]?).map (·.type) = some 38 := by kernel_rfl
theorem star : "*errors.errorString" = "*" ++ "errors.errorString" := by kernel_rfl
theorem rowErr (u : TypeId) (h : Tryd.prog.typeName? 3 u = some "*errors.errorString") : u = 85 :=
  typeName_ptr_named (nm := "errors.errorString") (by rw [← star]; kernel_rfl) (by kernel_rfl) (by decide) u (by rw [← star]; exact h)
theorem cellsErr : Tryd.prog.cellsOf 100 = 1 := by kernel_rfl
theorem cellsStr : Tryd.prog.cellsOf 9 = 1 := by kernel_rfl

theorem tables {W : World} (h : laidMetH Tryd.prog Rows.fnHuffmanBackRow.laid W) : ∃ a, LenTab W ∧ CodeTab W ∧ W.cell? ⟨2, 0, none⟩ = some (.iface 85 (.pointer (some a))) := by
  rw [show Rows.fnHuffmanBackRow.laid = [("bytes.ErrTooLarge", Rows.laid_bytes_ErrTooLarge), ("loop.example/pub-g03022/pub/hpack.ErrStringLength", Rows.laid_loop_example_pub_g03022_pub_hpack_ErrStringLength), ("loop.example/pub-g03022/pub/hpack.ErrInvalidHuffman", Rows.laid_loop_example_pub_g03022_pub_hpack_ErrInvalidHuffman), ("loop.example/pub-g03022/pub/hpack.huffmanCodes", Lib.tabData .u32 codeInts), ("loop.example/pub-g03022/pub/hpack.huffmanCodeLen", Lib.tabData .u8 lenInts)] by rw [← laidCode, ← laidLen]; rfl] at h
  have h2 := laidMet.tail (laidMet.tail h)
  obtain ⟨a, s, hv, _⟩ := laid_sentinel h2 gInv gInvType Tryd.underlying38 rowErr Tryd.underlying85 Tryd.underlying100 rfl rfl Tryd.underlying9 cellsErr cellsStr
  exact ⟨a, lenTab_of_head (laidMet.tail (laidMet.tail h2)), codeTab_of_head (laidMet.tail h2), by simpa using World.var?_cell gInv hv 0⟩

theorem own : ownKnob Tryd.prog.godebug = none := by kernel_rfl
theorem laidOut : laidOutB Tryd.prog = true := by kernel_rfl
/-- A world for the witness: the settled one, the variables holding what the program's own initialisers lay. -/
noncomputable def laidWorld (os : Os) : World :=
  let w0 := World.holding Tryd.prog os ⟨#[.cells #[.string ⟨#[98, 121, 116, 101, 115, 46, 66, 117, 102, 102, 101, 114, 58, 32, 116, 111, 111, 32, 108, 97, 114, 103, 101]⟩] 100, .cells #[.string ⟨#[104, 112, 97, 99, 107, 58, 32, 115, 116, 114, 105, 110, 103, 32, 116, 111, 111, 32, 108, 111, 110, 103]⟩] 100, .cells #[.string ⟨#[104, 112, 97, 99, 107, 58, 32, 105, 110, 118, 97, 108, 105, 100, 32, 72, 117, 102, 102, 109, 97, 110, 45, 101, 110, 99, 111, 100, 101, 100, 32, 100, 97, 116, 97]⟩] 100], #[], []⟩
  { w0 with heap := (((((w0.heap).modify 4 (laidTab #[.iface 85 (.pointer (some ⟨(World.settled Tryd.prog os).heap.size + 0, 0, none⟩))])).modify 3 (laidTab #[.iface 85 (.pointer (some ⟨(World.settled Tryd.prog os).heap.size + 1, 0, none⟩))])).modify 2 (laidTab #[.iface 85 (.pointer (some ⟨(World.settled Tryd.prog os).heap.size + 2, 0, none⟩))])).modify 1 (laidTab (tabVals Rows.laid_loop_example_pub_g03022_pub_hpack_huffmanCodes))).modify 0 (laidTab (tabVals Rows.laid_loop_example_pub_g03022_pub_hpack_huffmanCodeLen)) }
theorem laid_met (os : Os) (args : Array Value) : laidMetH Tryd.prog Rows.fnHuffmanBackRow.laid ((laidWorld os).forCall (fun _ _ => 0) ⟨#[], args, []⟩).memory :=
  laidMetH_of_parts3 (fuel := 8) (laidMet_of_run3 8 (by kernel_rfl) (by kernel_rfl) (by kernel_rfl)) (by kernel_rfl) (by kernel_rfl)
theorem reads (os : Os) {H : Type} (enc : TypeId × Value → H) : (DataW.whole enc Tryd.prog ((laidWorld os).forCall (fun _ _ => 0) ⟨#[], #[.string ByteArray.empty], []⟩).memory Tryd.f4.params.toList Rows.fnHuffmanBackSpec.vars false (#[.string ByteArray.empty] : Array Value).toList 8).isSome = true := by kernel_rfl

set_option maxRecDepth 100000 in
theorem lifted (os : Os) (started : os.Started) (H : Type) (enc : TypeId × Value → H) (F : Stop.Interp) :
    ReturnsInHanded {} Tryd.checked os 4 .any ((OpenSpec.ofChange Rows.fnHuffmanBackSpec).preRow enc Tryd.prog Tryd.f4 Rows.fnHuffmanBackRow.domain false Rows.fnHuffmanBackRow.laid) (((OpenSpec.ofChange Rows.fnHuffmanBackSpec).at F).post enc Tryd.prog Tryd.f4 false true false false) := by
  obtain ⟨x, hx⟩ := Option.isSome_iff_exists.1 (reads os enc)
  refine returnsInHanded_of_row (C := Tryd.checked) (s := OpenSpec.ofChange Rows.fnHuffmanBackSpec) own started (by kernel_rfl) Tryd.func4
    (witness_row_atRef (enc := enc) (C := Tryd.checked) false (laidWorld os) #[.string ByteArray.empty] rfl (by kernel_rfl) (by kernel_rfl) (by kernel_rfl)
      (OpenSpec.preRow_of_cond 8 hx rfl (fun k hk => by cases hk) (by kernel_rfl) (laid_met os _))) ?_
  intro W base args ds gs before hval hW _ _ _ hL _ _
  have hW' := hW
  obtain ⟨p, q, hA0, hV, rfl, _, _⟩ := hW
  have hA : DataW.TrodAll enc Tryd.prog W 0 (fun _ => true) true Tryd.f4.params.toList args.toList ds p := hA0
  rw [Tryd.params4] at hA hval
  obtain ⟨v0, vs0, d0, ds0, p0, q0, hargs, rfl, rfl, h0, r0⟩ := trodAll_cons hA
  obtain ⟨rfl, rfl, rfl⟩ := trodAll_nil r0
  obtain rfl : args = #[v0] := by cases args; simp_all
  obtain ⟨g0, g1, g2, g3, rfl⟩ := list4 (trodVars_length _ _ _ hV)
  obtain ⟨s, rfl, rfl, rfl, hs0⟩ := open_string Tryd.underlying9 (hval 0 9 v0 rfl rfl) h0
  have ht := tables hL
  refine (walk s ht.choose W ht.choose_spec.1 ht.choose_spec.2.1 ht.choose_spec.2.2).mono fun e W' ⟨he, hb⟩ => ?_
  subst he
  exact ⟨_, rfl, post_law laidOut (by rw [Tryd.params4]; intro t ht; simp at ht; subst ht; exact ⟨by kernel_rfl, of_decide_eq_true (by kernel_rfl)⟩) rfl Tryd.underlying4 (by kernel_rfl) rfl hW' hb⟩

theorem said : Rows.FnHuffmanBackSaid :=
  OpenClaim.holds_of_cond 4 Tryd.f4 rfl rfl rfl rfl rfl rfl rfl ⟨rfl, rfl, rfl, rfl, rfl⟩ rfl rfl rfl rfl rfl (by kernel_rfl) Tryd.func4 (by kernel_rfl)
    (of_decide_eq_true (by kernel_rfl)) (by unfold Func.isWrapper; first | (rw [if_pos (by decide +kernel)]; kernel_rfl) | (rw [if_neg (by decide +kernel)]; exact ⟨rfl, rfl⟩))
    (fun os started H enc _ F => by rw [OpenClaim.pre_eq_preRow]; exact lifted os started H enc F)

theorem plain (f : FuncId) (fn : Func) (hf : Tryd.pinned.checked.prog.funcNamed "loop.example/pub-g03022/laws.FnHuffmanBack" = some f) (hfn : Tryd.pinned.checked.prog.funcs[f]? = some fn) :
    true = Tryd.pinned.checked.prog.looks [] ∧ ∀ (j : Nat) t, fn.params[j]? = some t → Tryd.pinned.checked.prog.wantsStandIn t = false := by
  obtain rfl : f = 4 := Option.some.inj ((show Tryd.prog.funcNamed "loop.example/pub-g03022/laws.FnHuffmanBack" = some 4 by kernel_rfl).symm.trans hf) |>.symm
  obtain rfl : fn = Tryd.f4 := (Option.some.inj (Tryd.func4.symm.trans hfn)).symm
  refine ⟨by kernel_rfl, fun j t ht => ?_⟩
  have hall : ∀ t ∈ Tryd.f4.params.toList, Tryd.prog.wantsStandIn t = false := by
    have : (Tryd.f4.params.toList.all fun t => !Tryd.prog.wantsStandIn t) = true := by kernel_rfl
    intro t ht
    have := List.all_eq_true.1 this t ht
    simpa using this
  exact hall t (by simpa using Array.mem_of_getElem? ht)

/-- THE CARD. -/
theorem card : Rows.FnHuffmanBackCardSaid :=
  Claim7.holds_tied_plain_at .later [] _ _ _ _ said (fun _ h => by cases h) (by kernel_rfl) (fun _ h => by cases h) fnHuffmanBack_row_tie rfl ⟨rfl, rfl⟩ (by kernel_rfl) rfl plain (by kernel_rfl)
#print axioms card
end Go.Proofs.YtnemkaiaieomfaaDoor.FnHuffmanBack
