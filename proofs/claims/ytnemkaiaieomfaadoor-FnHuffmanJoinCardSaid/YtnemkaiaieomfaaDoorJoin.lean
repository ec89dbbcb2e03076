/-
  The law FnHuffmanJoin is proved whole: the codes of two texts together take as many bytes as both, or one less; and HuffmanLength tells how many HuffmanAppend appends (at most 2^20 bytes, as the law itself says); two tables of the program are listed and tied. No other condition.
-/
import Derived.Test.YtnemkaiaieomfaaDoorAppNil
import Derived.Test.YtnemkaiaieomfaaDoorShort
import Derived.Test.YtnemkaiaieomfaaDoorLaidTabs
import Derived.ProofKit
import Derived.OpenShut
namespace Go.Proofs.YtnemkaiaieomfaaDoor.FnHuffmanJoin
open Go.ChangeShapes Go.WideShapes Go.ChangeAt Go.RowKit
open Go.ChangeMaps (open_string)

theorem hencLen_append (s t : List UInt8) : HP.hencLen (s ++ t) ≤ HP.hencLen s + HP.hencLen t ∧ HP.hencLen s + HP.hencLen t ≤ HP.hencLen (s ++ t) + 1 := by
  unfold HP.hencLen
  rw [HP.nbits_append]
  omega

theorem lenA : HP.hencLen [97] = 1 := by decide +kernel

set_option maxHeartbeats 1000000 in
theorem walk (s t : ByteArray) (w : World) (hs : s.size ≤ maxLen) (ht : t.size ≤ maxLen) (hl : LenTab w) (hc : CodeTab w) :
    Calls Tryd.prog 3 #[.string s, .string t] w fun e w' => e = .returned (.bool true) ∧ Below w.heap.size w w' := by
  by_cases h1 : s.size ≤ 2147483647
  · by_cases h2 : t.size ≤ 2147483647
    · have hd1 : decide ((2147483647 : Int) < (s.size : Int)) = false := by simp; omega
      have hd2 : decide ((2147483647 : Int) < (t.size : Int)) = false := by simp; omega
      have Hl := Lib.hid hl
      have Hc := Lib.hid hc
      have Hm1 := Lib.hid hs
      have Hm2 := Lib.hid ht
      clear hl hc hs ht
      have Hb1 : Hid (Below w.heap.size w (w.alloc (.cells #[.string s, .string t] 9))) := (Below.refl _ _).alloc (Nat.le_refl _) _
      go_enter Tryd.func3, Tryd.ntmps3
      go_wp2_with fail
      refine (short_any w.heap.size 0 2 [s, t] _ (by simp [maxLen]) (by intro x hx; simp at hx; rcases hx with rfl | rfl; exact Hm1.out; exact Hm2.out) (by intro i hi; simp at hi; rcases i with _ | _ | i <;> simp; omega)).mono ?_
      rintro e w2 ⟨rfl, rfl⟩
      by_cases h3 : s.size + t.size ≤ 1048576
      · have hd : decide (sumSz [s, t] ≤ 1048576) = true := by simp [sumSz]; omega
        rw [hd]
        have hg := Hl.out.lt
        have hg' := Hc.out.lt
        have L0 : LenTab (w.alloc (.cells #[.string s, .string t] 9)) := Hl.out.below Hb1.out hg
        have C0 : CodeTab (w.alloc (.cells #[.string s, .string t] 9)) := Hc.out.below Hb1.out hg'
        have HL0 := Lib.hid L0
        have HC0 := Lib.hid C0
        clear L0 C0
        have e1 := HP.length_henc s.data.toList
        have e2 := HP.length_henc t.data.toList
        have e3 := HP.length_henc (s ++ t).data.toList
        have hj := hencLen_append s.data.toList t.data.toList
        rw [show s.data.toList ++ t.data.toList = (s ++ t).data.toList by simp] at hj
        generalize hA : HP.hencLen s.data.toList = A at *
        generalize hB : HP.hencLen t.data.toList = B at *
        generalize hC : HP.hencLen (s ++ t).data.toList = C at *
        obtain ⟨hj1, hj2⟩ := hj
        have hAb : A ≤ 31457280 := by have := nbits_le s.data.toList; rw [← hA]; unfold HP.hencLen; simp only [Array.length_toList, ByteArray.size_data] at this; omega
        have hBb : B ≤ 31457280 := by have := nbits_le t.data.toList; rw [← hB]; unfold HP.hencLen; simp only [Array.length_toList, ByteArray.size_data] at this; omega
        have HA := Lib.hid hA
        have HB := Lib.hid hB
        have HC := Lib.hid hC
        have E1 := Lib.hid e1
        have E2 := Lib.hid e2
        have E3 := Lib.hid e3
        clear hA hB hC e1 e2 e3
        go_wp2_with fail
        refine (appNil_any s _ (by omega) HL0.out HC0.out).mono ?_
        rintro e w1 ⟨a1, c1, rfl, -, hb1⟩
        rw [E1.out]
        have HL1 := Lib.hid (HL0.out.below hb1 HL0.out.lt)
        have HC1 := Lib.hid (HC0.out.below hb1 HC0.out.lt)
        have B1 := Lib.hid hb1
        clear hb1 HL0 HC0
        go_wp2_with fail
        refine (appNil_any t _ (by omega) HL1.out HC1.out).mono ?_
        rintro e w2 ⟨a2, c2, rfl, -, hb2⟩
        rw [E2.out]
        have HL2 := Lib.hid (HL1.out.below hb2 HL1.out.lt)
        have HC2 := Lib.hid (HC1.out.below hb2 HC1.out.lt)
        have B2 := Lib.hid hb2
        clear hb2 HL1 HC1
        go_wp2_with fail
        refine (appNil_any (s ++ t) _ (by rw [ByteArray.size_append]; omega) HL2.out HC2.out).mono ?_
        rintro e w3 ⟨a3, c3, rfl, -, hb3⟩
        rw [E3.out]
        have HL3 := Lib.hid (HL2.out.below hb3 HL2.out.lt)
        have B3 := Lib.hid hb3
        clear hb3 HL2 HC2
        go_wp2_with fail
        refine (huffmanLength_any _ _ (by decide) HL3.out).mono ?_
        rintro e w4 ⟨rfl, rfl⟩
        rw [show HP.hencLen ({ data := #[97] } : ByteArray).data.toList = 1 from lenA]
        go_wp2_with fail
        refine (huffmanLength_any s _ (by omega) HL3.out).mono ?_
        rintro e w4 ⟨rfl, rfl⟩
        rw [HA.out]
        go_wp2_with fail
        refine (huffmanLength_any (s ++ t) _ (by rw [ByteArray.size_append]; omega) HL3.out).mono ?_
        rintro e w4 ⟨rfl, rfl⟩
        rw [HC.out]
        go_wp2_with fail
        go_ret
        exact ⟨ret_bool (by simp; omega), Hb1.out.trans ((B1.out.mono (by simp)).trans ((B2.out.mono (by have := B1.out.size; simp at this; omega)).trans (B3.out.mono (by have := B1.out.size; have := B2.out.size; simp at *; omega))))⟩
      · have hd : decide (sumSz [s, t] ≤ 1048576) = false := by simp [sumSz]; omega
        rw [hd]
        go_wp2_with fail
        go_ret
        exact ⟨rfl, Hb1.out⟩
    · have hd1 : decide ((2147483647 : Int) < (s.size : Int)) = false := by simp; omega
      have hd2 : decide ((2147483647 : Int) < (t.size : Int)) = true := by simp; omega
      go_enter Tryd.func3, Tryd.ntmps3
      go_wp2_with fail
      go_ret
      exact ⟨rfl, Below.refl _ _⟩
  · have hd1 : decide ((2147483647 : Int) < (s.size : Int)) = true := by simp; omega
    go_enter Tryd.func3, Tryd.ntmps3
    go_wp2_with fail
    go_ret
    exact ⟨rfl, Below.refl _ _⟩

theorem tables {W : World} (h : laidMetH Tryd.prog Rows.fnHuffmanJoinRow.laid W) : LenTab W ∧ CodeTab W := by
  rw [show Rows.fnHuffmanJoinRow.laid = [("loop.example/pub-g03022/pub/hpack.huffmanCodes", Lib.tabData .u32 codeInts), ("loop.example/pub-g03022/pub/hpack.huffmanCodeLen", Lib.tabData .u8 lenInts)] by rw [← laidCode, ← laidLen]; rfl] at h
  exact ⟨lenTab_of_head (laidMet.tail h), codeTab_of_head h⟩

theorem own : ownKnob Tryd.prog.godebug = none := by kernel_rfl
theorem laidOut : laidOutB Tryd.prog = true := by kernel_rfl
/-- A world for the witness: the settled one, the variables holding what the program's own initialisers lay. -/
noncomputable def laidWorld (os : Os) : World :=
  let w0 := World.holding Tryd.prog os ⟨#[], #[], []⟩
  { w0 with heap := ((w0.heap).modify 1 (laidTab (tabVals Rows.laid_loop_example_pub_g03022_pub_hpack_huffmanCodes))).modify 0 (laidTab (tabVals Rows.laid_loop_example_pub_g03022_pub_hpack_huffmanCodeLen)) }
theorem laid_met (os : Os) (args : Array Value) : laidMetH Tryd.prog Rows.fnHuffmanJoinRow.laid ((laidWorld os).forCall (fun _ _ => 0) ⟨#[], args, []⟩).memory :=
  laidMetH_of_parts3 (fuel := 8) (laidMet_of_run3 8 (by kernel_rfl) (by kernel_rfl) (by kernel_rfl)) (by kernel_rfl) (by kernel_rfl)
theorem reads (os : Os) {H : Type} (enc : TypeId × Value → H) : (DataW.whole enc Tryd.prog ((laidWorld os).forCall (fun _ _ => 0) ⟨#[], #[.string ByteArray.empty, .string ByteArray.empty], []⟩).memory Tryd.f3.params.toList Rows.fnHuffmanJoinSpec.vars false (#[.string ByteArray.empty, .string ByteArray.empty] : Array Value).toList 8).isSome = true := by kernel_rfl

set_option maxRecDepth 100000 in
theorem lifted (os : Os) (started : os.Started) (H : Type) (enc : TypeId × Value → H) (F : Stop.Interp) :
    ReturnsInHanded {} Tryd.checked os 3 .any ((OpenSpec.ofChange Rows.fnHuffmanJoinSpec).preRow enc Tryd.prog Tryd.f3 Rows.fnHuffmanJoinRow.domain false Rows.fnHuffmanJoinRow.laid) (((OpenSpec.ofChange Rows.fnHuffmanJoinSpec).at F).post enc Tryd.prog Tryd.f3 false true false false) := by
  obtain ⟨x, hx⟩ := Option.isSome_iff_exists.1 (reads os enc)
  refine returnsInHanded_of_row (C := Tryd.checked) (s := OpenSpec.ofChange Rows.fnHuffmanJoinSpec) own started (by kernel_rfl) Tryd.func3
    (witness_row_atRef (enc := enc) (C := Tryd.checked) false (laidWorld os) #[.string ByteArray.empty, .string ByteArray.empty] rfl (by kernel_rfl) (by kernel_rfl) (by kernel_rfl)
      (OpenSpec.preRow_of_cond 8 hx rfl (fun k hk => by cases hk) (by kernel_rfl) (laid_met os _))) ?_
  intro W base args ds gs before hval hW _ _ _ hL _ _
  have hW' := hW
  obtain ⟨p, q, hA0, hV, rfl, _, _⟩ := hW
  have hA : DataW.TrodAll enc Tryd.prog W 0 (fun _ => true) true Tryd.f3.params.toList args.toList ds p := hA0
  rw [Tryd.params3] at hA hval
  obtain ⟨v0, vs0, d0, ds0, p0, q0, hargs, rfl, rfl, h0, r0⟩ := trodAll_cons hA
  obtain ⟨v1, vs1, d1, ds1, p1, q1, rfl, rfl, rfl, h1, r1⟩ := trodAll_cons r0
  obtain ⟨rfl, rfl, rfl⟩ := trodAll_nil r1
  obtain rfl : args = #[v0, v1] := by cases args; simp_all
  obtain ⟨g0, g1, rfl⟩ := list2 (trodVars_length _ _ _ hV)
  obtain ⟨s, rfl, rfl, rfl, hs0⟩ := open_string Tryd.underlying9 (hval 0 9 v0 rfl rfl) h0
  obtain ⟨t, rfl, rfl, rfl, hs1⟩ := open_string Tryd.underlying9 (hval 1 9 v1 rfl rfl) h1
  have ht := tables hL
  refine (walk s t W hs0 hs1 ht.1 ht.2).mono fun e W' ⟨he, hb⟩ => ?_
  subst he
  exact ⟨_, rfl, post_law laidOut (by rw [Tryd.params3]; intro t ht; simp at ht; subst ht; exact ⟨by kernel_rfl, of_decide_eq_true (by kernel_rfl)⟩) rfl Tryd.underlying4 (by kernel_rfl) rfl hW' hb⟩

theorem said : Rows.FnHuffmanJoinSaid :=
  OpenClaim.holds_of_cond 3 Tryd.f3 rfl rfl rfl rfl rfl rfl rfl ⟨rfl, rfl, rfl, rfl, rfl⟩ rfl rfl rfl rfl rfl (by kernel_rfl) Tryd.func3 (by kernel_rfl)
    (of_decide_eq_true (by kernel_rfl)) (by unfold Func.isWrapper; first | (rw [if_pos (by decide +kernel)]; kernel_rfl) | (rw [if_neg (by decide +kernel)]; exact ⟨rfl, rfl⟩))
    (fun os started H enc _ F => by rw [OpenClaim.pre_eq_preRow]; exact lifted os started H enc F)

theorem plain (f : FuncId) (fn : Func) (hf : Tryd.pinned.checked.prog.funcNamed "loop.example/pub-g03022/laws.FnHuffmanJoin" = some f) (hfn : Tryd.pinned.checked.prog.funcs[f]? = some fn) :
    true = Tryd.pinned.checked.prog.looks [] ∧ ∀ (j : Nat) t, fn.params[j]? = some t → Tryd.pinned.checked.prog.wantsStandIn t = false := by
  obtain rfl : f = 3 := Option.some.inj ((show Tryd.prog.funcNamed "loop.example/pub-g03022/laws.FnHuffmanJoin" = some 3 by kernel_rfl).symm.trans hf) |>.symm
  obtain rfl : fn = Tryd.f3 := (Option.some.inj (Tryd.func3.symm.trans hfn)).symm
  refine ⟨by kernel_rfl, fun j t ht => ?_⟩
  have hall : ∀ t ∈ Tryd.f3.params.toList, Tryd.prog.wantsStandIn t = false := by
    have : (Tryd.f3.params.toList.all fun t => !Tryd.prog.wantsStandIn t) = true := by kernel_rfl
    intro t ht
    have := List.all_eq_true.1 this t ht
    simpa using this
  exact hall t (by simpa using Array.mem_of_getElem? ht)

/-- THE CARD. -/
theorem card : Rows.FnHuffmanJoinCardSaid :=
  Claim7.holds_tied_plain_at .later [] _ _ _ _ said (fun _ h => by cases h) (by kernel_rfl) (fun _ h => by cases h) fnHuffmanJoin_row_tie rfl ⟨rfl, rfl⟩ (by kernel_rfl) rfl plain (by kernel_rfl)
#print axioms card
end Go.Proofs.YtnemkaiaieomfaaDoor.FnHuffmanJoin
