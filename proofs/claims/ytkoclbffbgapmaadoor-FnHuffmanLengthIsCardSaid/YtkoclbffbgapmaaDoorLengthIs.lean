/-
  The law FnHuffmanLengthIs is proved whole: HuffmanLength is the number of bits of the codes, in whole bytes (texts of at most 2^20 bytes, as the law itself says); two tables of the program are listed and tied. No other condition.
-/
import Derived.Test.YtkoclbffbgapmaaDoorHuffLen
import Derived.Test.YtkoclbffbgapmaaDoorCards
import Derived.Test.YtkoclbffbgapmaaDoorTie
import Derived.ProofKit
import Derived.OpenShut
import Derived.Deep.DeepHandedRow
import Derived.Lib.LaidTab
import Derived.Stop.LaidErr
namespace Go.Proofs.YtkoclbffbgapmaaDoor.FnHuffmanLengthIs
open Go.ChangeShapes Go.WideShapes Go.ChangeAt Go.RowKit
open Go.ChangeMaps (open_string)

/-- The reference's table lies in memory. -/
def SpecTab (w : World) : Prop := ∀ i, i < 256 → w.cell? ⟨0, i, none⟩ = some (.int .i64 (HP.hlen i : Nat))

set_option maxHeartbeats 400000 in
theorem bits_any (s : ByteArray) (w : World) (hs : s.size ≤ 1048576) (ht : SpecTab w) :
    Calls Tryd.prog 5 #[.string s] w fun e w' => e = .returned (.int .i64 (HP.nbits s.data.toList : Nat)) ∧ w = w' := by
  have Ht := Lib.hid ht
  clear ht
  go_enter Tryd.func5, Tryd.ntmps5
  go_wp2
  go_loop [3, 4] (fun n i => ∃ k : Nat, k ≤ s.size ∧ i = .int .i64 k ∧ n = .int .i64 (HP.nbits (s.data.toList.take k) : Nat)) (fun _ i => s.size - (intOf i).toNat)
  case atStart => exact ⟨0, Nat.zero_le _, rfl, rfl⟩
  case round =>
    obtain ⟨k, hk, rfl, rfl⟩ := hrel
    have hbd := nbits_le (s.data.toList.take k)
    have hlen := List.length_take_le k s.data.toList
    generalize hn : HP.nbits (s.data.toList.take k) = n at *
    have Hn := Lib.hid hn
    clear hn
    have hn30 : n ≤ 31457280 := by omega
    clear hbd hlen
    by_cases hlt : k < s.size
    · have hc := Ht.out s[k].toNat (by simpa using s[k].toNat_lt)
      have h30 := hlen_lt s[k].toNat (by simpa using s[k].toNat_lt)
      have h256 : (s[k].toNat : Int) < 257 := by have := s[k].toNat_lt; omega
      have Hnext : Hid (HP.nbits (s.data.toList.take (k + 1)) = HP.nbits (s.data.toList.take k) + HP.hlen s[k].toNat) := by
        rw [take_snoc s k hlt]; exact nbits_snoc _ _
      go_wp2
      refine ⟨⟨k + 1, by omega, by go_num, by rw [Hnext.out, Hn.out]; go_num⟩, by simp [intOf]; omega⟩
    · go_wp2
      go_ret
      have e : s.data.toList.take k = s.data.toList := List.take_of_length_le (by simp; omega)
      have h2 := Hn.out
      rw [e] at h2
      exact ⟨ret_int (by rw [h2]), rfl⟩

theorem walk (s : ByteArray) (w : World) (ht : LenTab w) (ht' : SpecTab w) :
    Calls Tryd.prog 3 #[.string s] w fun e w' => e = .returned (.bool true) ∧ Below w.heap.size w w' := by
  by_cases h1 : s.size ≤ 2147483647
  · by_cases h2 : s.size ≤ 1048576
    · have hb := nbits_le s.data.toList
      simp only [Array.length_toList, ByteArray.size_data] at hb
      have Ht := Lib.hid ht
      have Ht' := Lib.hid ht'
      clear ht ht'
      have hg : decide ((1048576 : Int) < (s.size : Int)) = false := by simp; omega
      go_enter Tryd.func3, Tryd.ntmps3
      go_wp2_with (first | (go_at_call 4; refine (huffmanLength_any _ _ h2 Ht.out).mono ?_; rintro e w' ⟨rfl, rfl⟩) | (go_at_call 5; refine (bits_any _ _ h2 Ht'.out).mono ?_; rintro e w' ⟨rfl, rfl⟩))
      go_ret
      exact ⟨ret_bool (by simp [HP.hencLen]), Below.refl _ _⟩
    · have hg : decide ((1048576 : Int) < (s.size : Int)) = true := by simp; omega
      go_enter Tryd.func3, Tryd.ntmps3
      go_wp2_with fail
      go_ret
      exact ⟨rfl, Below.refl _ _⟩
  · go_enter Tryd.func3, Tryd.ntmps3
    go_wp2_with fail
    go_ret
    exact ⟨rfl, Below.refl _ _⟩

theorem own : ownKnob Tryd.prog.godebug = none := by kernel_rfl
theorem laidOut : laidOutB Tryd.prog = true := by kernel_rfl
theorem gLen : Tryd.prog.globalNamed "loop.example/pub-g03022/pub/hpack.huffmanCodeLen" = some 1 := by kernel_rfl
theorem gLenType : (Tryd.prog.globals[1]?).map (·.type) = some 27 := by kernel_rfl
theorem gSpec : Tryd.prog.globalNamed "loop.example/pub-g03022/spec.lengths" = some 0 := by kernel_rfl
theorem gSpecType : (Tryd.prog.globals[0]?).map (·.type) = some 26 := by kernel_rfl
theorem cellsLen : Tryd.prog.cellsOf 27 = 256 := by kernel_rfl
theorem cellsSpec : Tryd.prog.cellsOf 26 = 257 := by kernel_rfl
theorem cellsU8 : Tryd.prog.cellsOf 5 = 1 := by kernel_rfl
theorem cellsInt : Tryd.prog.cellsOf 3 = 1 := by kernel_rfl
def lenInts : List Int := HP.lensL.map Int.ofNat
def specInts : List Int := lenInts ++ [30]
theorem laidLen : (Rows.laid_loop_example_pub_g03022_pub_hpack_huffmanCodeLen : DataW Unit) = Lib.tabData .u8 lenInts := by kernel_rfl
theorem laidSpec : (Rows.laid_loop_example_pub_g03022_spec_lengths : DataW Unit) = Lib.tabData .i64 specInts := by kernel_rfl
theorem lenInts_at : ∀ i, i < 256 → lenInts.getD i 0 = (HP.hlen i : Nat) := by decide +kernel
theorem specInts_at : ∀ i, i < 256 → specInts.getD i 0 = (HP.hlen i : Nat) := by decide +kernel
theorem lenInts_len : lenInts.length = 256 := by decide +kernel
theorem specInts_len : specInts.length = 257 := by decide +kernel
theorem listIs : Rows.fnHuffmanLengthIsRow.laid = [("loop.example/pub-g03022/pub/hpack.huffmanCodeLen", Lib.tabData .u8 lenInts), ("loop.example/pub-g03022/spec.lengths", Lib.tabData .i64 specInts)] := by
  rw [← laidLen, ← laidSpec]; rfl

theorem tables {W : World} (h : laidMetH Tryd.prog Rows.fnHuffmanLengthIsRow.laid W) : LenTab W ∧ SpecTab W := by
  rw [listIs] at h
  have h1 := Lib.tabIs_of_head gLen gLenType Tryd.underlying27 Tryd.underlying5 cellsU8 cellsLen h
  have h2 := Lib.tabIs_of_head gSpec gSpecType Tryd.underlying26 Tryd.underlying3 cellsInt cellsSpec (laidMet.tail h)
  exact ⟨fun i hi => by rw [h1.cell gLen i (by rw [lenInts_len]; exact hi), lenInts_at i hi], fun i hi => by rw [h2.cell gSpec i (by rw [specInts_len]; exact Nat.lt_succ_of_lt hi), specInts_at i hi]⟩

def laidTab (cs : Array Value) : Obj → Obj
  | .cells _ t frozen => .cells cs t frozen
  | o => o
noncomputable def laidWorld (os : Os) : World :=
  { World.holding Tryd.prog os ⟨#[], #[], []⟩ with heap := ((World.holding Tryd.prog os ⟨#[], #[], []⟩).heap.modify 1 (laidTab (lenInts.map (Value.int .u8)).toArray)).modify 0 (laidTab (specInts.map (Value.int .i64)).toArray) }
theorem laid_met (os : Os) : laidMet Tryd.prog Rows.fnHuffmanLengthIsRow.laid ((laidWorld os).forCall (fun _ _ => 0) ⟨#[], #[.string ByteArray.empty], []⟩).memory :=
  laidMet_of_run' 8 (by kernel_rfl) (by kernel_rfl)
theorem reads (os : Os) {H : Type} (enc : TypeId × Value → H) : ∃ gs places, DataW.whole enc Tryd.prog ((laidWorld os).forCall (fun _ _ => 0) ⟨#[], #[.string ByteArray.empty], []⟩).memory Tryd.f3.params.toList Rows.fnHuffmanLengthIsSpec.vars false #[Value.string ByteArray.empty].toList 8 = some ([.lit (.string [])], gs, places) :=
  ⟨[Lib.tabData .u8 lenInts, Lib.tabData .i64 specInts], ((List.range 256).map (MemPlace.cell 1)) ++ ((List.range 257).map (MemPlace.cell 0)), by kernel_rfl⟩

set_option maxRecDepth 100000 in
theorem lifted (os : Os) (started : os.Started) (H : Type) (enc : TypeId × Value → H) (F : Stop.Interp) :
    ReturnsInHanded {} Tryd.checked os 3 .any ((OpenSpec.ofChange Rows.fnHuffmanLengthIsSpec).preRow enc Tryd.prog Tryd.f3 Rows.fnHuffmanLengthIsRow.domain false Rows.fnHuffmanLengthIsRow.laid) (((OpenSpec.ofChange Rows.fnHuffmanLengthIsSpec).at F).post enc Tryd.prog Tryd.f3 false true false false) := by
  obtain ⟨gs, places, hx⟩ := reads os enc
  refine returnsInHanded_of_row (C := Tryd.checked) (s := OpenSpec.ofChange Rows.fnHuffmanLengthIsSpec) own started (by kernel_rfl) Tryd.func3
    (witness_row_at (enc := enc) (C := Tryd.checked) false (laidWorld os) #[.string ByteArray.empty] rfl (by kernel_rfl) (by kernel_rfl) (by kernel_rfl)
      (OpenSpec.preRow_of_cond 8 hx (by kernel_rfl) (fun k hk => by cases hk) (by kernel_rfl) (laid_met os))) ?_
  intro W base args ds gs before hval hW _ _ _ hL _ _
  have hW' := hW
  obtain ⟨p, q, hA0, hV, rfl, _, _⟩ := hW
  have hA : DataW.TrodAll enc Tryd.prog W 0 (fun _ => true) true Tryd.f3.params.toList args.toList ds p := hA0
  rw [Tryd.params3] at hA hval
  obtain ⟨v0, d0, rfl, rfl, h0⟩ := trodAll_one hA
  obtain ⟨s, rfl, rfl, rfl, hs⟩ := open_string Tryd.underlying9 (hval 0 9 v0 rfl rfl) h0
  obtain ⟨g1, g2, rfl⟩ : ∃ g1 g2, gs = [g1, g2] := by
    match gs, hV with
    | [g1, g2], _ => exact ⟨g1, g2, rfl⟩
    | [], h => exact h.elim
    | [_], h => obtain ⟨_, _, _, _, _, _, _, _, _, _, h', _⟩ := h; exact h'.elim
    | _ :: _ :: _ :: _, h => obtain ⟨_, _, _, _, _, _, _, _, _, _, h', _⟩ := h; obtain ⟨_, _, _, _, _, _, _, _, _, _, h'', _⟩ := h'; exact h''.elim
  have ht := tables hL
  refine (walk s W ht.1 ht.2).mono fun e W' ⟨he, hb⟩ => ?_
  subst he
  exact ⟨_, rfl, post_law laidOut (by rw [Tryd.params3]; intro t ht; simp at ht; subst ht; exact ⟨by kernel_rfl, of_decide_eq_true (by kernel_rfl)⟩) rfl Tryd.underlying4 (by kernel_rfl) rfl hW' hb⟩

theorem said : Rows.FnHuffmanLengthIsSaid :=
  OpenClaim.holds_of_cond 3 Tryd.f3 rfl rfl rfl rfl rfl rfl rfl ⟨rfl, rfl, rfl, rfl, rfl⟩ rfl rfl rfl rfl rfl (by kernel_rfl) Tryd.func3 (by kernel_rfl)
    (of_decide_eq_true (by kernel_rfl)) (by unfold Func.isWrapper; first | (rw [if_pos (by decide +kernel)]; kernel_rfl) | (rw [if_neg (by decide +kernel)]; exact ⟨rfl, rfl⟩))
    (fun os started H enc _ F => by rw [OpenClaim.pre_eq_preRow]; exact lifted os started H enc F)

theorem plain (f : FuncId) (fn : Func) (hf : Tryd.pinned.checked.prog.funcNamed "loop.example/pub-g03022/laws.FnHuffmanLengthIs" = some f) (hfn : Tryd.pinned.checked.prog.funcs[f]? = some fn) :
    false = Tryd.pinned.checked.prog.looks [] ∧ ∀ (j : Nat) t, fn.params[j]? = some t → Tryd.pinned.checked.prog.wantsStandIn t = false := by
  obtain rfl : f = 3 := Option.some.inj ((show Tryd.prog.funcNamed "loop.example/pub-g03022/laws.FnHuffmanLengthIs" = some 3 by kernel_rfl).symm.trans hf) |>.symm
  obtain rfl : fn = Tryd.f3 := (Option.some.inj (Tryd.func3.symm.trans hfn)).symm
  refine ⟨by kernel_rfl, fun j t ht => ?_⟩
  rw [Tryd.params3] at ht
  obtain rfl : t = 9 := by simpa using Array.mem_of_getElem? ht
  exact (show Tryd.prog.wantsStandIn 9 = false by kernel_rfl)

theorem card : Rows.FnHuffmanLengthIsCardSaid :=
  Claim7.holds_tied_plain_at .later [] _ _ _ _ said (fun _ h => by cases h) (by kernel_rfl) (fun _ h => by cases h) fnHuffmanLengthIs_row_tie rfl ⟨rfl, rfl⟩ (by kernel_rfl) rfl plain (by kernel_rfl)
#print axioms card
end Go.Proofs.YtkoclbffbgapmaaDoor.FnHuffmanLengthIs
