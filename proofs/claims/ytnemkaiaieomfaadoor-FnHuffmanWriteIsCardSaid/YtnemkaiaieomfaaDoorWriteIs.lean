/-
  The law FnHuffmanWriteIs is proved whole: HuffmanWrite writes what HuffmanText returns, by at most one call, tells how much that was, and refuses the same (at most 2^20 bytes, as the law itself says); the variables that are listed are tied. No other condition.
-/
import Derived.Test.YtnemkaiaieomfaaDoorSink
import Derived.Test.YtnemkaiaieomfaaDoorErrTab
import Derived.ProofKit
import Derived.OpenShut
namespace Go.Proofs.YtnemkaiaieomfaaDoor.FnHuffmanWriteIs
open Go.ChangeShapes Go.WideShapes Go.ChangeAt Go.RowKit

theorem SrcAny.kept {sa : Option Addr} {cap : Nat} {v : List UInt8} {w w' : World} (h : SrcAny sa cap v w) (hb : Below w.heap.size w w') : SrcAny sa cap v w' := by
  rcases h with h | ⟨a, e, hc⟩
  · exact Or.inl h
  · refine Or.inr ⟨a, e, fun q u hu => ?_⟩
    have h0 := hc q u hu
    have hlt : (a.add q).block < w.heap.size := World.block_lt_of_cell? w _ h0
    exact (hb.cell hlt).trans h0

theorem dec31 : HP.hdec [31] = some [97] := by decide +kernel
theorem write31 (w : World) (cap : Nat) (sa : Option Addr) (a : Addr) (hsrc : SrcAny sa cap [31] w) (hl : LenTab w) (hc : CodeTab w) (he : w.cell? ⟨2, 0, none⟩ = some (.iface 85 (.pointer (some a)))) :
    Calls Tryd.prog 12 #[.slice sa 1 cap] w fun e w' => e = .returned (.tuple #[.string ⟨#[97]⟩, .int .i64 1, .int .i64 1, .int .i64 0]) ∧ Below w.heap.size w w' := by
  refine (write_any cap sa [31] a w (by decide) hsrc hl hc he).mono ?_
  rintro e w' ⟨rfl, hb⟩
  rw [dec31]
  exact ⟨rfl, hb⟩

set_option maxRecDepth 100000 in
theorem walk (sa : Option Addr) (cap : Nat) (v : List UInt8) (a : Addr) (w : World) (hsrc : SrcAny sa cap v w) (hm : v.length ≤ maxLen) (hl : LenTab w) (hc : CodeTab w) (he : w.cell? ⟨2, 0, none⟩ = some (.iface 85 (.pointer (some a)))) :
    Calls Tryd.prog 6 #[.slice sa v.length cap] w fun e w' => e = .returned (.bool true) ∧ Below w.heap.size w w' := by
  have hG : 2 < w.heap.size := World.block_lt_of_cell? w ⟨2, 0, none⟩ he
  by_cases h1 : v.length ≤ 2147483647
  · by_cases h2 : v.length ≤ 1048576
    · have hd1 : decide ((2147483647 : Int) < (v.length : Int)) = false := by simp; omega
      have hd2 : decide ((1048576 : Int) < (v.length : Int)) = false := by simp; omega
      have Hl := Lib.hid hl
      have Hc := Lib.hid hc
      have He := Lib.hid he
      have Hm := Lib.hid hm
      have Hsrc := Lib.hid hsrc
      clear hl hc he hm hsrc
      go_enter Tryd.func6, Tryd.ntmps6
      go_wp2_with fail
      refine (text_any cap sa v a _ (by omega) Hsrc.out Hl.out Hc.out He.out).mono ?_
      rintro e w1 ⟨rfl, hb1⟩
      have Hb1 := Lib.hid hb1
      clear hb1
      cases hdec : HP.hdec v with
      | none =>
        have Hdec := Lib.hid hdec
        rw [show textOf none = .tuple #[.string ByteArray.empty, .int .i64 2] from rfl]
        clear hdec
        go_wp2_with fail
        refine (write_any cap sa v a _ (by omega) (SrcAny.kept Hsrc.out Hb1.out) (Hl.out.below Hb1.out (LenTab.lt Hl.out)) (Hc.out.below Hb1.out (CodeTab.lt Hc.out)) ((Hb1.out.cell (p := ⟨2, 0, none⟩) hG).trans He.out)).mono ?_
        rintro e w2 ⟨rfl, hb2⟩
        have Hb2 := Lib.hid (Hb1.out.trans (hb2.mono Hb1.out.size))
        clear hb2
        rw [Hdec.out, show writeOf none = .tuple #[.string ByteArray.empty, .int .i64 0, .int .i64 0, .int .i64 2] from rfl]
        have Hb3 : Hid (Below w.heap.size w (w2.alloc (.cells #[.int .u8 31] 5))) := Hb2.out.alloc Hb2.out.size _
        go_wp2_with fail
        refine (write31 _ 1 _ a (Or.inr ⟨⟨w2.heap.size, 0, none⟩, rfl, fun q u hu => news_of_new w2 [.int .u8 31] 5 q u (by simpa [Lib.byteCells] using hu)⟩) (Hl.out.below Hb3.out (LenTab.lt Hl.out)) (Hc.out.below Hb3.out (CodeTab.lt Hc.out)) ((Hb3.out.cell (p := ⟨2, 0, none⟩) hG).trans He.out)).mono ?_
        rintro e w4 ⟨rfl, hb4⟩
        have Hb4 := Lib.hid (Hb3.out.trans (hb4.mono Hb3.out.size))
        clear hb4
        go_wp2_with fail
        go_ret
        exact ⟨rfl, Hb4.out⟩
      | some t =>
        have Hdec := Lib.hid hdec
        rw [show textOf (some t) = .tuple #[.string ⟨t.toArray⟩, .int .i64 0] from rfl]
        clear hdec
        go_wp2_with fail
        refine (write_any cap sa v a _ (by omega) (SrcAny.kept Hsrc.out Hb1.out) (Hl.out.below Hb1.out (LenTab.lt Hl.out)) (Hc.out.below Hb1.out (CodeTab.lt Hc.out)) ((Hb1.out.cell (p := ⟨2, 0, none⟩) hG).trans He.out)).mono ?_
        rintro e w2 ⟨rfl, hb2⟩
        have Hb2 := Lib.hid (Hb1.out.trans (hb2.mono Hb1.out.size))
        clear hb2
        rw [Hdec.out, show writeOf (some t) = .tuple #[.string ⟨t.toArray⟩, .int .i64 (t.length : Nat), .int .i64 1, .int .i64 0] from rfl]
        have Hb3 : Hid (Below w.heap.size w (w2.alloc (.cells #[.int .u8 31] 5))) := Hb2.out.alloc Hb2.out.size _
        go_wp2_with fail
        refine (write31 _ 1 _ a (Or.inr ⟨⟨w2.heap.size, 0, none⟩, rfl, fun q u hu => news_of_new w2 [.int .u8 31] 5 q u (by simpa [Lib.byteCells] using hu)⟩) (Hl.out.below Hb3.out (LenTab.lt Hl.out)) (Hc.out.below Hb3.out (CodeTab.lt Hc.out)) ((Hb3.out.cell (p := ⟨2, 0, none⟩) hG).trans He.out)).mono ?_
        rintro e w4 ⟨rfl, hb4⟩
        have Hb4 := Lib.hid (Hb3.out.trans (hb4.mono Hb3.out.size))
        clear hb4
        go_wp2_with fail
        go_ret
        exact ⟨ret_bool (by simp), Hb4.out⟩
    · have hd1 : decide ((2147483647 : Int) < (v.length : Int)) = false := by simp; omega
      have hd2 : decide ((1048576 : Int) < (v.length : Int)) = true := by simp; omega
      go_enter Tryd.func6, Tryd.ntmps6
      go_wp2_with fail
      go_ret
      exact ⟨rfl, Below.refl _ _⟩
  · have hd1 : decide ((2147483647 : Int) < (v.length : Int)) = true := by simp; omega
    go_enter Tryd.func6, Tryd.ntmps6
    go_wp2_with fail
    go_ret
    exact ⟨rfl, Below.refl _ _⟩

theorem tables {W : World} (h : laidMetH Tryd.prog Rows.fnHuffmanWriteIsRow.laid W) : ∃ a, LenTab W ∧ CodeTab W ∧ W.cell? ⟨2, 0, none⟩ = some (.iface 85 (.pointer (some a))) := by
  rw [show Rows.fnHuffmanWriteIsRow.laid = [("bytes.ErrTooLarge", Rows.laid_bytes_ErrTooLarge), ("loop.example/pub-g03022/pub/hpack.ErrStringLength", Rows.laid_loop_example_pub_g03022_pub_hpack_ErrStringLength), ("loop.example/pub-g03022/pub/hpack.ErrInvalidHuffman", Rows.laid_loop_example_pub_g03022_pub_hpack_ErrInvalidHuffman), ("loop.example/pub-g03022/pub/hpack.huffmanCodes", Lib.tabData .u32 codeInts), ("loop.example/pub-g03022/pub/hpack.huffmanCodeLen", Lib.tabData .u8 lenInts)] by rw [← laidCode, ← laidLen]; rfl] at h
  have h2 := laidMet.tail (laidMet.tail h)
  obtain ⟨a, s, hv, _⟩ := laid_sentinel h2 gInv gInvType Tryd.underlying38 rowErr Tryd.underlying85 Tryd.underlying100 rfl rfl Tryd.underlying9 cellsErr cellsStr
  exact ⟨a, lenTab_of_head (laidMet.tail (laidMet.tail h2)), codeTab_of_head (laidMet.tail h2), by simpa using World.var?_cell gInv hv 0⟩

theorem own : ownKnob Tryd.prog.godebug = none := by kernel_rfl
theorem laidOut : laidOutB Tryd.prog = true := by kernel_rfl
/-- A world for the witness: the settled one, the variables holding what the program's own initialisers lay. -/
noncomputable def laidWorld (os : Os) : World :=
  let w0 := World.holding Tryd.prog os ⟨#[.cells #[.string ⟨#[98, 121, 116, 101, 115, 46, 66, 117, 102, 102, 101, 114, 58, 32, 116, 111, 111, 32, 108, 97, 114, 103, 101]⟩] 100, .cells #[.string ⟨#[104, 112, 97, 99, 107, 58, 32, 115, 116, 114, 105, 110, 103, 32, 116, 111, 111, 32, 108, 111, 110, 103]⟩] 100, .cells #[.string ⟨#[104, 112, 97, 99, 107, 58, 32, 105, 110, 118, 97, 108, 105, 100, 32, 72, 117, 102, 102, 109, 97, 110, 45, 101, 110, 99, 111, 100, 101, 100, 32, 100, 97, 116, 97]⟩] 100], #[], []⟩
  { w0 with heap := (((((w0.heap).modify 4 (laidTab #[.iface 85 (.pointer (some ⟨(World.settled Tryd.prog os).heap.size + 0, 0, none⟩))])).modify 3 (laidTab #[.iface 85 (.pointer (some ⟨(World.settled Tryd.prog os).heap.size + 1, 0, none⟩))])).modify 2 (laidTab #[.iface 85 (.pointer (some ⟨(World.settled Tryd.prog os).heap.size + 2, 0, none⟩))])).modify 1 (laidTab (tabVals Rows.laid_loop_example_pub_g03022_pub_hpack_huffmanCodes))).modify 0 (laidTab (tabVals Rows.laid_loop_example_pub_g03022_pub_hpack_huffmanCodeLen)) }
theorem laid_met (os : Os) (args : Array Value) : laidMetH Tryd.prog Rows.fnHuffmanWriteIsRow.laid ((laidWorld os).forCall (fun _ _ => 0) ⟨#[], args, []⟩).memory :=
  laidMetH_of_parts3 (fuel := 8) (laidMet_of_run3 8 (by kernel_rfl) (by kernel_rfl) (by kernel_rfl)) (by kernel_rfl) (by kernel_rfl)
theorem reads (os : Os) {H : Type} (enc : TypeId × Value → H) : (DataW.whole enc Tryd.prog ((laidWorld os).forCall (fun _ _ => 0) ⟨#[], #[.slice none 0 0], []⟩).memory Tryd.f6.params.toList Rows.fnHuffmanWriteIsSpec.vars false (#[.slice none 0 0] : Array Value).toList 8).isSome = true := by kernel_rfl

set_option maxRecDepth 100000 in
theorem lifted (os : Os) (started : os.Started) (H : Type) (enc : TypeId × Value → H) (F : Stop.Interp) :
    ReturnsInHanded {} Tryd.checked os 6 .any ((OpenSpec.ofChange Rows.fnHuffmanWriteIsSpec).preRow enc Tryd.prog Tryd.f6 Rows.fnHuffmanWriteIsRow.domain false Rows.fnHuffmanWriteIsRow.laid) (((OpenSpec.ofChange Rows.fnHuffmanWriteIsSpec).at F).post enc Tryd.prog Tryd.f6 false true false false) := by
  obtain ⟨x, hx⟩ := Option.isSome_iff_exists.1 (reads os enc)
  refine returnsInHanded_of_row (C := Tryd.checked) (s := OpenSpec.ofChange Rows.fnHuffmanWriteIsSpec) own started (by kernel_rfl) Tryd.func6
    (witness_row_atRef (enc := enc) (C := Tryd.checked) false (laidWorld os) #[.slice none 0 0] rfl (by kernel_rfl) (by kernel_rfl) (by kernel_rfl)
      (OpenSpec.preRow_of_cond 8 hx rfl (fun k hk => by cases hk) (by kernel_rfl) (laid_met os _))) ?_
  intro W base args ds gs before hval hW _ _ _ hL _ _
  have hW' := hW
  obtain ⟨p, q, hA0, hV, rfl, _, _⟩ := hW
  have hA : DataW.TrodAll enc Tryd.prog W 0 (fun _ => true) true Tryd.f6.params.toList args.toList ds p := hA0
  rw [Tryd.params6] at hA hval
  obtain ⟨v0, vs0, d0, ds0, p0, q0, hargs, rfl, rfl, h0, r0⟩ := trodAll_cons hA
  obtain ⟨rfl, rfl, rfl⟩ := trodAll_nil r0
  obtain rfl : args = #[v0] := by cases args; simp_all
  obtain ⟨g0, g1, g2, g3, rfl⟩ := list4 (trodVars_length _ _ _ hV)
  obtain ⟨sa0, cap0, b, rfl, hs0, hm0⟩ := open_bytes (hval 0 23 v0 rfl rfl) h0
  have ht := tables hL
  refine (walk sa0 cap0 b ht.choose W hs0 hm0 ht.choose_spec.1 ht.choose_spec.2.1 ht.choose_spec.2.2).mono fun e W' ⟨he, hb⟩ => ?_
  subst he
  exact ⟨_, rfl, post_law laidOut (by rw [Tryd.params6]; intro t ht; simp at ht; subst ht; exact ⟨by kernel_rfl, of_decide_eq_true (by kernel_rfl)⟩) rfl Tryd.underlying4 (by kernel_rfl) rfl hW' hb⟩

theorem said : Rows.FnHuffmanWriteIsSaid :=
  OpenClaim.holds_of_cond 6 Tryd.f6 rfl rfl rfl rfl rfl rfl rfl ⟨rfl, rfl, rfl, rfl, rfl⟩ rfl rfl rfl rfl rfl (by kernel_rfl) Tryd.func6 (by kernel_rfl)
    (of_decide_eq_true (by kernel_rfl)) (by unfold Func.isWrapper; first | (rw [if_pos (by decide +kernel)]; kernel_rfl) | (rw [if_neg (by decide +kernel)]; exact ⟨rfl, rfl⟩))
    (fun os started H enc _ F => by rw [OpenClaim.pre_eq_preRow]; exact lifted os started H enc F)

theorem plain (f : FuncId) (fn : Func) (hf : Tryd.pinned.checked.prog.funcNamed "loop.example/pub-g03022/laws.FnHuffmanWriteIs" = some f) (hfn : Tryd.pinned.checked.prog.funcs[f]? = some fn) :
    true = Tryd.pinned.checked.prog.looks [] ∧ ∀ (j : Nat) t, fn.params[j]? = some t → Tryd.pinned.checked.prog.wantsStandIn t = false := by
  obtain rfl : f = 6 := Option.some.inj ((show Tryd.prog.funcNamed "loop.example/pub-g03022/laws.FnHuffmanWriteIs" = some 6 by kernel_rfl).symm.trans hf) |>.symm
  obtain rfl : fn = Tryd.f6 := (Option.some.inj (Tryd.func6.symm.trans hfn)).symm
  refine ⟨by kernel_rfl, fun j t ht => ?_⟩
  have hall : ∀ t ∈ Tryd.f6.params.toList, Tryd.prog.wantsStandIn t = false := by
    have : (Tryd.f6.params.toList.all fun t => !Tryd.prog.wantsStandIn t) = true := by kernel_rfl
    intro t ht
    have := List.all_eq_true.1 this t ht
    simpa using this
  exact hall t (by simpa using Array.mem_of_getElem? ht)

/-- THE CARD. -/
theorem card : Rows.FnHuffmanWriteIsCardSaid :=
  Claim7.holds_tied_plain_at .later [] _ _ _ _ said (fun _ h => by cases h) (by kernel_rfl) (fun _ h => by cases h) fnHuffmanWriteIs_row_tie rfl ⟨rfl, rfl⟩ (by kernel_rfl) rfl plain (by kernel_rfl)
#print axioms card
end Go.Proofs.YtnemkaiaieomfaaDoor.FnHuffmanWriteIs
