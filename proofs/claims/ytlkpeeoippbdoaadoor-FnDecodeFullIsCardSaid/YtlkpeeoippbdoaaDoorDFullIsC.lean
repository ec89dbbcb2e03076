/-
  FnDecodeFullIs: DecodeFull lists what Write and Close emit, and refuses the same. No condition.
-/
import Derived.Test.YtlkpeeoippbdoaaDoorMf1
namespace Go.Proofs.YtlkpeeoippbdoaaDoor.FnDecodeFullIs
open Go.ChangeShapes Go.WideShapes Go.ChangeAt Go.RowKit

theorem srcAny_mono {sa : Option Addr} {cap : Nat} {v : List UInt8} {w w' : World} (h : SrcAny sa cap v w) (hb : Below w.heap.size w w') : SrcAny sa cap v w' :=
  h.imp id fun ⟨a, e, hc⟩ => ⟨a, e, fun q u hu => (hb.cell (World.block_lt_of_cell? _ _ (hc q u hu))).trans (hc q u hu)⟩
theorem full_src {w : World} {v : HD.Bs} {sa : Option Addr} {cap : Nat} (hl : v.length < 2 ^ 40) (h : SrcAny sa cap v w) : CmdV w (.full v) (.slice sa v.length cap) := by
  refine ⟨hl, by simp [sizeOfC], ?_⟩
  rcases h with ⟨rfl, rfl, rfl⟩ | ⟨a, rfl, hb⟩
  · exact Or.inl ⟨rfl, rfl⟩
  · exact Or.inr ⟨a, cap, rfl, hb, rfl⟩
theorem full_law (σ : HD.DS) (v : HD.Bs) : (HD.dstep σ (.full v)).2.err = (HD.rd [] (HD.drun σ (wholeCmds v))).2 ∧ ((HD.dstep σ (.full v)).2.err = none → (HD.dstep σ (.full v)).2.lst = (HD.rd [] (HD.drun σ (wholeCmds v))).1) := by
  rw [dstep_full]
  simp only [fullR, wholeCmds, HD.drun, HD.dstep, HD.rd]
  cases h1 : (HD.write σ.st σ.save v).err with
  | some e => exact ⟨rfl, fun h => by cases h⟩
  | none =>
    simp only []
    cases h2 : (HD.close (HD.write σ.st σ.save v).st (HD.write σ.st σ.save v).save).err with
    | some e => exact ⟨rfl, fun h => by cases h⟩
    | none => exact ⟨rfl, fun _ => by simp⟩
theorem decode_full (w : World) (size : Nat) (aI aN aL : Addr) (gs : Nat) (v : HD.Bs) (b : Value) (hs : size ≤ 2 ^ 31) (hE : Env w.heap.size w aI aN aL) (hm : StepsMem w gs 0 [.full v] [b]) (hv : v.length ≤ 2 ^ 24) :
    Calls Tryd.prog 12 #[.int .i64 (size : Nat), .slice (some ⟨gs, 0, none⟩) 1 1] w fun e w' => ∃ g c, e = .returned (.slice (some ⟨g, 0, none⟩) 1 c) ∧ AnsMem w' g c [(HD.dstep (st0 size) (.full v)).2] ∧ Below w.heap.size w w' := by
  refine (run_any w size aI aN aL gs 0 1 [.full v] [b] hs hE hm (by decide) (Nat.le_refl 1) (by show 1 ≤ 2 ^ 30; decide) ⟨cmdOk_full (emOk_impl _ _ (Nat.le_refl _)) (by show ([] ++ v).length ≤ _; rw [List.nil_append]; omega), trivial⟩ (by show v.length + 0 ≤ _; omega)).mono ?_
  intro e w' h
  obtain ⟨g, c, rfl, h1, h2⟩ := ans_of_run h (by show 0 < 1; decide)
  exact ⟨g, c, rfl, h1, h2⟩
theorem rd_len : ∀ (A : List HD.Ans) (acc : List HD.Fld), (HD.rd acc A).1.length ≤ acc.length + (A.map fun a => a.out.length).sum
  | [], acc => by simp [HD.rd]
  | a :: A, acc => by
    rw [HD.rd]
    cases a.err with
    | some e => simp
    | none =>
      have := rd_len A (acc ++ a.out)
      simp at this ⊢
      omega

set_option maxHeartbeats 4000000 in
set_option maxRecDepth 100000 in
theorem main (size : Nat) (sb : Option Addr) (cb : Nat) (b : HD.Bs) (W : World) (hs : SrcAny sb cb b W) (aI aN aL : Addr) (hE : Env W.heap.size W aI aN aL) (hsz : size ≤ 2 ^ 31) (hv : b.length ≤ 1048576) :
    Calls Tryd.prog 4 #[.int .i64 (size : Nat), .slice sb b.length cb] W fun e W' => e = .returned (.bool true) ∧ Below W.heap.size W W' := by
  have d1 : decide ((2147483647 : Int) < (b.length : Int)) = false := by simp; omega
  have d4 : decide ((1048576 : Int) < (b.length : Int)) = false := by simp; omega
  have d5 : decide (0 ≤ (size : Int) ∧ (size : Int) ≤ 2147483648) = true := decide_eq_true ⟨by omega, by omega⟩
  have HE := Lib.hid hE
  have Hs := Lib.hid hs
  clear hE hs
  go_enter Tryd.func4, Tryd.ntmps4
  go_wp2_with fail
  refine (isSize_any _ _).mono ?_
  rintro e w1 ⟨rfl, hw1⟩
  subst hw1
  rw [d5]
  clear d5
  go_wp2_with fail
  have hst : StepsMem (w1.alloc (.cells #[.int .i64 2, .slice sb b.length cb, .int .i64 0, .bool false] 27)) w1.heap.size 0 [.full b] [.slice sb b.length cb] := by
    refine steps_of_cells rfl (fun j u hu => ?_) ?_
    · have := news_of_new w1 (stepCells [.full b] [.slice sb b.length cb]) 27 j u hu
      rwa [Lib.addr_add] at this
    · intro i h1 h2
      match i, h1, h2 with
      | 0, _, _ => exact full_src (by omega) (srcAny_mono Hs.out ((Below.refl _ _).alloc (Nat.le_refl _) _))
  have hb2 : Below w1.heap.size w1 (w1.alloc (.cells #[.int .i64 2, .slice sb b.length cb, .int .i64 0, .bool false] 27)) := (Below.refl _ _).alloc (Nat.le_refl _) _
  generalize w1.alloc (.cells #[.int .i64 2, .slice sb b.length cb, .int .i64 0, .bool false] 27) = w2 at hst hb2 ⊢
  have Hb2 := Lib.hid hb2
  have Hst := Lib.hid hst
  clear hb2 hst
  refine (decode_full w2 size aI aN aL w1.heap.size b _ hsz ((HE.out.below Hb2.out).mono Hb2.out.size) Hst.out (by omega)).mono ?_
  rintro e w3 ⟨g3, c3, rfl, hans3, hb3⟩
  have Hans3 := Lib.hid hans3
  have Hb3 := Lib.hid (Hb2.out.trans (hb3.mono Hb2.out.size))
  clear hans3 hb3 Hst
  go_wp2_with fail
  have hst := whole_steps w3 b sb cb (CmdV.write_src (by omega) (srcAny_mono Hs.out Hb3.out))
  refine (whole_any _ _ _ _).mono ?_
  rintro e w5 ⟨rfl, hw5⟩
  rw [← hw5] at hst
  have hb5 : Below w3.heap.size w3 w5 := by rw [hw5]; exact (Below.refl _ _).alloc (Nat.le_refl _) _
  have Hb5 := Lib.hid (Hb3.out.trans (hb5.mono Hb3.out.size))
  have Hans5 := Lib.hid (Hans3.out.mono hb5)
  have Hst := Lib.hid hst
  clear hst hw5 hb5
  go_wp2_with fail
  refine (decode_whole w5 size aI aN aL w3.heap.size b _ hsz ((HE.out.below Hb5.out).mono Hb5.out.size) Hst.out (by omega)).mono ?_
  rintro e w6 ⟨g6, c6, rfl, hans, hb6⟩
  have hrd := read_whole hans (by omega)
  obtain ⟨r, hr⟩ : ∃ r, r = HD.rd [] (HD.drun (st0 size) (wholeCmds b)) := ⟨_, rfl⟩
  rw [← hr] at hrd
  have Hr := Lib.hid hr
  have Hrd6 := Lib.hid hrd
  have Hb6 := Lib.hid (Hb5.out.trans (hb6.mono Hb5.out.size))
  have Hans6 := Lib.hid (Hans5.out.mono hb6)
  clear hans hrd hb6 hr Hst
  go_wp2_with fail
  refine Hrd6.out.mono ?_
  rintro e w7 ⟨a7, c7, rfl, hown7, hb7⟩
  have Hf7 := Lib.hid (FSl.of_own hown7)
  have Hb7 := Lib.hid (Hb6.out.trans (hb7.mono Hb6.out.size))
  have hans7 := Hans6.out.mono hb7
  have hL := full_law (st0 size) b
  rw [← Hr.out] at hL
  obtain ⟨A, hA⟩ : ∃ A, A = (HD.dstep (st0 size) (.full b)).2 := ⟨_, rfl⟩
  rw [← hA] at hL hans7
  obtain ⟨fv, lv, nn, c0, c1, c2, c3', c4, c5, hf, hl⟩ := hans7.at 0 A rfl
  rw [hL.1] at c4 c5
  obtain ⟨cd, hcd⟩ : ∃ x, x = HD.code r.2 := ⟨_, rfl⟩
  obtain ⟨ci, hci⟩ : ∃ x, x = HD.idx r.2 := ⟨_, rfl⟩
  rw [← hcd] at c4
  rw [← hci] at c5
  rw [← hcd, ← hci]
  have q1 : w7.cell? ⟨g3, 1, none⟩ = some lv := c1
  have q4 : w7.cell? ⟨g3, 4, none⟩ = some (.int .i64 cd) := c4
  have q5 : w7.cell? ⟨g3, 5, none⟩ = some (.int .i64 ci) := c5
  have hc3 : 1 ≤ c3 := hans7.len
  have HL := Lib.hid hL
  have Hl := Lib.hid hl
  have Hcd := Lib.hid hcd
  clear hown7 hb7 hans7 hL c0 c1 c2 c3' c4 c5 hf hl hcd hci hA Hans3 Hans5 Hans6 Hrd6
  have hrl62 : r.1.length ≤ 2 ^ 62 := by
    rw [Hr.out]
    have h1 := rd_len (HD.drun (st0 size) (wholeCmds b)) []
    have h2 := drun_sum0 size (wholeCmds b) (by show b.length + (0 + 0) ≤ _; omega)
    simp at h1; omega
  obtain ⟨la, lc, ln, hlv⟩ : ∃ a c n, lv = .slice a n c := by
    obtain ⟨a, c, h, -⟩ := Hl.out
    exact ⟨_, _, _, h⟩
  subst hlv
  by_cases h0 : cd = 0
  · have d6 : decide (cd = 0) = true := decide_eq_true h0
    have e0 : r.2 = none := by
      cases he : r.2 with
      | none => rfl
      | some er => exact absurd (by rw [← he, ← Hcd.out]; exact h0) (code_ne er)
    have hlst := HL.out.2 (HL.out.1.trans e0)
    have hl2 := Hl.out
    rw [hlst] at hl2
    have Hl2 := Lib.hid hl2
    clear hl2 hlst e0
    go_wp2_with fail
    refine (equal_any r.1 r.1 _ _ _ Hl2.out Hf7.out hrl62).mono ?_
    rintro e w8 ⟨rfl, hb8⟩
    have he : decide (r.1 = r.1) = true := decide_eq_true rfl
    rw [he]
    have Hb8 := Lib.hid (Hb7.out.trans (hb8.mono Hb7.out.size))
    clear hb8 he
    go_wp2_with fail
    go_ret
    exact ⟨by simp, Hb8.out⟩
  · have d6 : decide (cd = 0) = false := decide_eq_false h0
    go_wp2_with fail
    go_ret
    exact ⟨by simp, Hb7.out⟩

theorem walk (n : Int) (sb : Option Addr) (cb : Nat) (b : HD.Bs) (W : World) (hs : SrcAny sb cb b W) (aI aN aL : Addr) (hE : Env W.heap.size W aI aN aL) :
    Calls Tryd.prog 4 #[.int .i64 n, .slice sb b.length cb] W fun e W' => e = .returned (.bool true) ∧ Below W.heap.size W W' := by
  by_cases h1 : 2147483647 < b.length
  · have d1 : decide ((2147483647 : Int) < (b.length : Int)) = true := by simp; omega
    clear hE hs
    go_enter Tryd.func4, Tryd.ntmps4
    go_wp2_with fail
    go_ret
    exact ⟨rfl, Below.refl _ _⟩
  · have d1 : decide ((2147483647 : Int) < (b.length : Int)) = false := by simp; omega
    by_cases h3 : 0 ≤ n ∧ n ≤ 2147483648
    · have d3 := decide_eq_true h3
      by_cases h4 : 1048576 < b.length
      · have d4 : decide ((1048576 : Int) < (b.length : Int)) = true := by simp; omega
        clear h3
        clear hE hs
        go_enter Tryd.func4, Tryd.ntmps4
        go_wp2_with fail
        refine (isSize_any _ _).mono ?_
        rintro e w1 ⟨rfl, rfl⟩
        rw [d3]
        go_wp2_with fail
        go_ret
        exact ⟨rfl, Below.refl _ _⟩
      · obtain ⟨m, rfl⟩ := Int.eq_ofNat_of_zero_le h3.1
        exact main m sb cb b W hs aI aN aL hE (by omega) (by omega)
    · have d3 := decide_eq_false h3
      clear h3
      clear hE hs
      go_enter Tryd.func4, Tryd.ntmps4
      go_wp2_with fail
      refine (isSize_any _ _).mono ?_
      rintro e w1 ⟨rfl, rfl⟩
      rw [d3]
      go_wp2_with fail
      go_ret
      exact ⟨rfl, Below.refl _ _⟩
theorem tables {W : World} (h : laidMetH Tryd.prog Rows.fnDecodeFullIsRow.laid W) : ∃ aI aN aL, Env W.heap.size W aI aN aL := by
  rw [show Rows.fnDecodeFullIsRow.laid = envList by unfold envList; rw [← laidCode, ← laidLen]; rfl] at h
  exact env_of h

theorem own : ownKnob Tryd.prog.godebug = none := by kernel_rfl
theorem laidOut : laidOutB Tryd.prog = true := by kernel_rfl
/-- A world for the witness: the settled one, the variables holding what the program's own initialisers lay. -/
noncomputable def laidWorld (os : Os) : World :=
  let w0 := World.holding Tryd.prog os ⟨#[.cells #[.string ⟨#[98, 121, 116, 101, 115, 46, 66, 117, 102, 102, 101, 114, 58, 32, 116, 111, 111, 32, 108, 97, 114, 103, 101]⟩] 123, .cells #[.string ⟨#[104, 112, 97, 99, 107, 58, 32, 115, 116, 114, 105, 110, 103, 32, 116, 111, 111, 32, 108, 111, 110, 103]⟩] 123, .cells #[.string ⟨#[110, 101, 101, 100, 32, 109, 111, 114, 101, 32, 100, 97, 116, 97]⟩] 123, .cells #[.string ⟨#[104, 112, 97, 99, 107, 58, 32, 105, 110, 118, 97, 108, 105, 100, 32, 72, 117, 102, 102, 109, 97, 110, 45, 101, 110, 99, 111, 100, 101, 100, 32, 100, 97, 116, 97]⟩] 123], #[], []⟩
  { w0 with heap := ((((((w0.heap).modify 5 (laidTab #[.iface 121 (.pointer (some ⟨(World.settled Tryd.prog os).heap.size + 0, 0, none⟩))])).modify 1 (laidTab #[.iface 121 (.pointer (some ⟨(World.settled Tryd.prog os).heap.size + 1, 0, none⟩))])).modify 2 (laidTab #[.iface 121 (.pointer (some ⟨(World.settled Tryd.prog os).heap.size + 2, 0, none⟩))])).modify 0 (laidTab #[.iface 121 (.pointer (some ⟨(World.settled Tryd.prog os).heap.size + 3, 0, none⟩))])).modify 3 (laidTab (tabVals Rows.laid_loop_example_pub_g03022_pub_hpack_huffmanCodes))).modify 4 (laidTab (tabVals Rows.laid_loop_example_pub_g03022_pub_hpack_huffmanCodeLen)) }
theorem laid_met (os : Os) (args : Array Value) : laidMetH Tryd.prog Rows.fnDecodeFullIsRow.laid ((laidWorld os).forCall (fun _ _ => 0) ⟨#[], args, []⟩).memory :=
  laidMetH_of_parts3 (fuel := 8) (laidMet_of_run3 8 (by kernel_rfl) (by kernel_rfl) (by kernel_rfl)) (by kernel_rfl) (by kernel_rfl)
theorem reads (os : Os) {H : Type} (enc : TypeId × Value → H) : (DataW.whole enc Tryd.prog ((laidWorld os).forCall (fun _ _ => 0) ⟨#[], #[.int .i64 0, .slice none 0 0], []⟩).memory Tryd.f4.params.toList Rows.fnDecodeFullIsSpec.vars false (#[.int .i64 0, .slice none 0 0] : Array Value).toList 8).isSome = true := by kernel_rfl

set_option maxRecDepth 100000 in
theorem lifted (os : Os) (started : os.Started) (H : Type) (enc : TypeId × Value → H) (F : Stop.Interp) :
    ReturnsInHanded {} Tryd.checked os 4 .any ((OpenSpec.ofChange Rows.fnDecodeFullIsSpec).preRow enc Tryd.prog Tryd.f4 Rows.fnDecodeFullIsRow.domain false Rows.fnDecodeFullIsRow.laid) (((OpenSpec.ofChange Rows.fnDecodeFullIsSpec).at F).post enc Tryd.prog Tryd.f4 false true false false) := by
  obtain ⟨x, hx⟩ := Option.isSome_iff_exists.1 (reads os enc)
  refine returnsInHanded_of_row (C := Tryd.checked) (s := OpenSpec.ofChange Rows.fnDecodeFullIsSpec) own started (by kernel_rfl) Tryd.func4
    (witness_row_atRef (enc := enc) (C := Tryd.checked) false (laidWorld os) #[.int .i64 0, .slice none 0 0] rfl (by kernel_rfl) (by kernel_rfl) (by kernel_rfl)
      (OpenSpec.preRow_of_cond 8 hx rfl (fun k hk => by cases hk) (by kernel_rfl) (laid_met os _))) ?_
  intro W base args ds gs before hval hW _ _ _ hL _ _
  have hW' := hW
  obtain ⟨p, q, hA0, hV, rfl, _, _⟩ := hW
  have hA : DataW.TrodAll enc Tryd.prog W 0 (fun _ => true) true Tryd.f4.params.toList args.toList ds p := hA0
  rw [Tryd.params4] at hA hval
  obtain ⟨v0, vs0, d0, ds0, p0, q0, hargs, rfl, rfl, h0, r0⟩ := trodAll_cons hA
  obtain ⟨v1, vs1, d1, ds1, p1, q1, rfl, rfl, rfl, h1, r1⟩ := trodAll_cons r0
  obtain ⟨rfl, rfl, rfl⟩ := trodAll_nil r1
  obtain rfl : args = #[v0, v1] := by cases args; simp_all
  obtain ⟨g0, g1, g2, g3, g4, rfl⟩ := list5 (trodVars_length _ _ _ hV)
  obtain ⟨n, rfl, rfl, rfl, hs0⟩ := open_int Tryd.underlying3 (hval 0 3 v0 rfl rfl) h0
  obtain ⟨sa1, cap1, b, rfl, hs1, hm1⟩ := open_bytes (hval 1 22 v1 rfl rfl) h1
  have ht := tables hL
  refine (walk n sa1 cap1 b W hs1 ht.choose ht.choose_spec.choose ht.choose_spec.choose_spec.choose ht.choose_spec.choose_spec.choose_spec).mono fun e W' ⟨he, hb⟩ => ?_
  subst he
  exact ⟨_, rfl, post_law laidOut (by rw [Tryd.params4]; intro t ht; simp at ht; rcases ht with rfl | rfl <;> exact ⟨by kernel_rfl, of_decide_eq_true (by kernel_rfl)⟩) rfl Tryd.underlying4 (by kernel_rfl) rfl hW' hb⟩

theorem said : Rows.FnDecodeFullIsSaid :=
  OpenClaim.holds_of_cond 4 Tryd.f4 rfl rfl rfl rfl rfl rfl rfl ⟨rfl, rfl, rfl, rfl, rfl⟩ rfl rfl rfl rfl rfl (by kernel_rfl) Tryd.func4 (by kernel_rfl)
    (of_decide_eq_true (by kernel_rfl)) (by unfold Func.isWrapper; first | (rw [if_pos (by decide +kernel)]; kernel_rfl) | (rw [if_neg (by decide +kernel)]; exact ⟨rfl, rfl⟩))
    (fun os started H enc _ F => by rw [OpenClaim.pre_eq_preRow]; exact lifted os started H enc F)

theorem plain (f : FuncId) (fn : Func) (hf : Tryd.pinned.checked.prog.funcNamed "loop.example/pub-g03022/laws.FnDecodeFullIs" = some f) (hfn : Tryd.pinned.checked.prog.funcs[f]? = some fn) :
    true = Tryd.pinned.checked.prog.looks [] ∧ ∀ (j : Nat) t, fn.params[j]? = some t → Tryd.pinned.checked.prog.wantsStandIn t = false := by
  obtain rfl : f = 4 := Option.some.inj ((show Tryd.prog.funcNamed "loop.example/pub-g03022/laws.FnDecodeFullIs" = some 4 by kernel_rfl).symm.trans hf) |>.symm
  obtain rfl : fn = Tryd.f4 := (Option.some.inj (Tryd.func4.symm.trans hfn)).symm
  refine ⟨by kernel_rfl, fun j t ht => ?_⟩
  have hall : ∀ t ∈ Tryd.f4.params.toList, Tryd.prog.wantsStandIn t = false := by
    have : (Tryd.f4.params.toList.all fun t => !Tryd.prog.wantsStandIn t) = true := by kernel_rfl
    intro t ht
    have := List.all_eq_true.1 this t ht
    simpa using this
  exact hall t (by simpa using Array.mem_of_getElem? ht)

/-- THE CARD. -/
theorem card : Rows.FnDecodeFullIsCardSaid :=
  Claim7.holds_tied_plain_at .later [] _ _ _ _ said (fun _ h => by cases h) (by kernel_rfl) (fun _ h => by cases h) fnDecodeFullIs_row_tie rfl ⟨rfl, rfl⟩ (by kernel_rfl) rfl plain (by kernel_rfl)
#print axioms card
end Go.Proofs.YtlkpeeoippbdoaaDoor.FnDecodeFullIs
