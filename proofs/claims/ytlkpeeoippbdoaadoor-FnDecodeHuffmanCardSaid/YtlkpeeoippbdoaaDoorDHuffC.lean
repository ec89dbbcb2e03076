/-
  FnDecodeHuffman: a field whose value's codes are refused is refused, as an invalid Huffman code; any other one has the text that HuffmanText returns. No condition.
-/
import Derived.Test.YtlkpeeoippbdoaaDoorMk3
namespace Go.Proofs.YtlkpeeoippbdoaaDoor.FnDecodeHuffman
open Go.ChangeShapes Go.WideShapes Go.ChangeAt Go.RowKit

def pre (v : HD.Bs) : HD.Bs := [0, 1, 97] ++ HD.intg 128 7 v.length
def block (v : HD.Bs) : HD.Bs := pre v ++ v
theorem repr_block {s : HD.St} (hs : s.on = true) (v : HD.Bs) (hv : v.length < 2 ^ 63) : HD.pRepr s (block v) = match HP.hdec v with
    | none => .bad .huff
    | some t => .ok s.ents s.max (some ⟨[97], t, false⟩) [] := by
  have h := HD.rvi_intg (above := 128) (bits := 7) (n := v.length) (r := v) (by decide) (by decide) hv
  have h2 : HD.rstr (HD.intg 128 7 v.length ++ v) = .ok true v [] := by
    obtain ⟨x, p, hx, e⟩ := HD.intg_head 128 7 v.length
    rw [e, List.cons_append] at h ⊢
    rw [HD.rstr, h]
    have hx' : x ≤ 127 := by simpa using hx
    simp only [HD.toNat_of (show 128 + x < 256 by omega)]
    rw [if_neg (by omega), List.take_of_length_le (Nat.le_refl _), List.drop_of_length_le (Nat.le_refl _)]
    simp
  have h3 : HD.rstr (1 :: 97 :: (HD.intg 128 7 v.length ++ v)) = .ok false [97] (HD.intg 128 7 v.length ++ v) := by
    rw [HD.rstr, HD.rvi, if_pos (by decide)]
    dsimp only
    rw [if_neg (by simp)]
    rfl
  have hb : block v = 0 :: 1 :: 97 :: (HD.intg 128 7 v.length ++ v) := by simp [block, pre]
  rw [hb, HD.pRepr, if_neg (by decide), if_neg (by decide), if_pos (by decide), HD.pLit, HD.rvi, if_pos (by decide)]
  dsimp only
  rw [if_neg (by decide), h3]
  dsimp only
  rw [HD.pVal, h2]
  simp only [hs, Bool.true_or, if_true, HD.dstr, Bool.false_eq_true, if_false]
  cases HP.hdec v with
  | none => rfl
  | some t => simp [HD.pEnd, HD.tell, hs]
theorem rd_block (size : Nat) (v : HD.Bs) (hv : v.length < 2 ^ 63) : HD.rd [] (HD.drun (st0 size) (wholeCmds (block v))) = match HP.hdec v with
    | none => ([], some .huff)
    | some t => ([⟨[97], t, false⟩], none) := by
  have h := repr_block (s := (st0 size).st) rfl v hv
  have hb : block v = 0 :: (1 :: 97 :: (HD.intg 128 7 v.length ++ v)) := by simp [block, pre]
  have hw : HD.write (st0 size).st (st0 size).save (block v) = match HP.hdec v with
    | none => ⟨{ (st0 size).st with first := false }, [], [], some .huff⟩
    | some t => ⟨{ (st0 size).st with first := false }, [⟨[97], t, false⟩], [], none⟩ := by
    rw [HD.write, if_neg (by rw [hb]; simp)]
    show HD.wr (([] : HD.Bs) ++ block v).length _ _ ([] ++ block v) = _
    rw [List.nil_append]
    rw [hb] at h ⊢
    rw [List.length_cons, HD.wr, h]
    cases HP.hdec v with
    | none => rfl
    | some t => simp [HD.wr_nil]
  simp only [wholeCmds, HD.drun, HD.dstep, hw, HD.rd]
  cases HP.hdec v with
  | none => rfl
  | some t => simp [HD.close]
theorem srcAny_mono {sa : Option Addr} {cap : Nat} {v : List UInt8} {w w' : World} (h : SrcAny sa cap v w) (hb : Below w.heap.size w w') : SrcAny sa cap v w' :=
  h.imp id fun ⟨a, e, hc⟩ => ⟨a, e, fun q u hu => (hb.cell (World.block_lt_of_cell? _ _ (hc q u hu))).trans (hc q u hu)⟩
theorem block_len (v : HD.Bs) (hv : v.length ≤ 2 ^ 20) : (block v).length ≤ 2 ^ 21 := by
  have := HD.intg_len 128 7 v.length (by omega)
  simp [block, pre]; omega

set_option maxHeartbeats 2000000 in
set_option maxRecDepth 100000 in
theorem main (sa : Option Addr) (cap : Nat) (v : HD.Bs) (W : World) (hs : SrcAny sa cap v W) (aI aN aL : Addr) (hE : Env W.heap.size W aI aN aL) (hv : v.length ≤ 1048576) (hc : v.length ≤ maxLen) :
    Calls Tryd.prog 8 #[.slice sa v.length cap] W fun e W' => e = .returned (.bool true) ∧ Below W.heap.size W W' := by
  have d1 : decide ((2147483647 : Int) < (v.length : Int)) = false := by simp; omega
  have d2 : decide ((1048576 : Int) < (v.length : Int)) = false := by simp; omega
  obtain ⟨n, hn⟩ : ∃ n, n = v.length := ⟨_, rfl⟩
  have HE := Lib.hid hE
  have Hs := Lib.hid hs
  obtain ⟨i0, hi, hz0, hz1, hz2⟩ := info_parts infoU8
  have Hi := Lib.hid hi
  clear hE hs hi
  go_enter Tryd.func8, Tryd.ntmps8
  go_upto_region 5 with (fail)
  go_cut [3] from 15 (fun v3 wx => ∃ (a3 : Option Addr) (c3 : Nat), v3 = .slice a3 (block v).length c3 ∧ wx.ownsRow W.heap.size 5 1 (.slice a3 (block v).length c3) (block v).length (Lib.byteCells (block v)) ∧ Below W.heap.size W wx)
  case first =>
    go_wp2_with fail
    have hst := own_new (w := W) #[.int .u8 0, .int .u8 1, .int .u8 97] 5 1 3 rfl (by decide)
    have hb0 : Below W.heap.size W (W.alloc (.cells #[.int .u8 0, .int .u8 1, .int .u8 97] 5)) := (Below.refl _ _).alloc (Nat.le_refl _) _
    have hs0 : (W.alloc (.cells #[.int .u8 0, .int .u8 1, .int .u8 97] 5)).heap.size = W.heap.size + 1 := by simp
    generalize W.alloc (.cells #[.int .u8 0, .int .u8 1, .int .u8 97] 5) = W0 at hst hb0 hs0 ⊢
    refine (integer_any7 v.length _ (by omega)).mono ?_
    rintro e w1 ⟨a1, c1, rfl, hown1, hb1⟩
    have hL : (HD.intg 128 7 v.length).length ≤ 7 := HD.intg_len 128 7 _ (by omega)
    have hL0 : 0 < (HD.intg 128 7 v.length).length := List.length_pos_iff.2 (HD.intg_ne _ _ _)
    obtain ⟨g1, c1', e1, -, -, hg1, hg1'⟩ := own_some hown1 hL0
    injection e1 with e1 _ e2
    subst e1; subst e2
    have hst1 : w1.ownsRow W.heap.size 5 1 (.slice (some ⟨W.heap.size, 0, none⟩) 3 3) 3 (Lib.byteCells [0, 1, 97]) := ownsRow_of_heap hst fun g hg => hb1.block g (hst.lt g hg).2
    have hn1 : ∀ j u, (Lib.byteCells (HD.intg 128 7 v.length))[j]? = some u → w1.cell? ((⟨g1, 0, none⟩ : Addr).add j) = some u := hown1.cells (g := g1) rfl
    have hb01 : Below W.heap.size W w1 := hb0.trans (hb1.mono (by omega))
    have Hst1 := Lib.hid hst1
    have Hn1 := Lib.hid hn1
    have Hb01 := Lib.hid hb01
    have hs1 := hb1.size
    clear hst hb0 hown1 hb1 hst1 hn1 hb01
    go_wp2_with (at_builtin; (refine wpList_append_own_at _ rfl _ _ 22 rfl W.heap.size 5 i0 (.int .u8 0) 1 1 Tryd.underlying22 Hi.out hz0 hz1 hz2 rfl (by decide) (.slice (some ⟨W.heap.size, 0, none⟩) 3 3) 3 (Lib.byteCells [0, 1, 97]) rfl ?a1 ⟨g1, 0, none⟩ (HD.intg 128 7 v.length).length c1 (Lib.byteCells (HD.intg 128 7 v.length)) rfl ?a7 ?a2 ?a3 ?a4 ?a5 ?a6 ?_))
    case a1 => exact Hst1.out
    case a7 => rw [byteCells_len, Nat.mul_one]
    case a2 => exact Hn1.out
    case a3 => exact Lib.byteCells_one _
    case a4 => unfold maxLen; omega
    case a5 => omega
    case a6 => omega
    intro v2 w2 hown2 hgrow2 _ hat2
    rw [← byteCells_append, show [0, 1, 97] ++ HD.intg 128 7 v.length = pre v from rfl] at hown2
    have hb02 : Below W.heap.size W w2 := Hb01.out.grown hgrow2 (by omega) (fun g hg => (Hst1.out.lt g hg).1)
    obtain ⟨g2, c2, rfl, hc2, -, -, -⟩ := own_some hown2 (by omega)
    have hs2 := hb02.size
    have Hown2 := Lib.hid hown2
    have Hb02 := Lib.hid hb02
    clear hown2 hgrow2 hat2 hb02
    have hbl : (block v).length = 3 + (HD.intg 128 7 v.length).length + v.length := by simp [block, pre]; omega
    have hbc : Lib.byteCells (block v) = Lib.byteCells (pre v) ++ Lib.byteCells v := byteCells_append _ _
    have Hbl := Lib.hid hbl
    have Hbc := Lib.hid hbc
    clear hbl hbc
    rcases Hs.out with ⟨rfl, rfl, rfl⟩ | ⟨a, rfl, hsrc⟩
    · have hc2I : 3 + (HD.intg 128 7 ([] : HD.Bs).length).length ≤ c2 := hc2
      go_wp2_with fail
      go_meet
      refine ⟨some ⟨g2, 0, none⟩, c2, by rw [Hbl.out]; rfl, ?_, Hb02.out⟩
      rw [Hbl.out, Hbc.out]
      simpa [Lib.byteCells] using Hown2.out
    · have hsrc2 : ∀ j u, (Lib.byteCells v)[j]? = some u → w2.cell? (a.add j) = some u := fun j u hu => by
        have := hsrc j u hu
        exact (Hb02.out.cell (World.block_lt_of_cell? _ _ this)).trans this
      have Hsrc2 := Lib.hid hsrc2
      clear hsrc hsrc2
      go_wp2_with (at_builtin; (refine wpList_append_own_at _ rfl _ _ 22 rfl W.heap.size 5 i0 (.int .u8 0) 1 1 Tryd.underlying22 Hi.out hz0 hz1 hz2 rfl (by decide) (.slice (some ⟨g2, 0, none⟩) (3 + (HD.intg 128 7 v.length).length) c2) (3 + (HD.intg 128 7 v.length).length) (Lib.byteCells (pre v)) rfl ?a1 a v.length cap (Lib.byteCells v) rfl ?a7 ?a2 ?a3 ?a4 ?a5 ?a6 ?_))
      case a1 => exact Hown2.out
      case a7 => rw [byteCells_len, Nat.mul_one]
      case a2 => exact Hsrc2.out
      case a3 => exact Lib.byteCells_one _
      case a4 => unfold maxLen; omega
      case a5 => omega
      case a6 => omega
      intro v3 w3 hown3 hgrow3 _ hat3
      have hb03 : Below W.heap.size W w3 := Hb02.out.grown hgrow3 (by omega) (fun g hg => (Hown2.out.lt g hg).1)
      rw [← Hbl.out, ← Hbc.out] at hown3
      have Hown3 := Lib.hid hown3
      have Hb03 := Lib.hid hb03
      obtain ⟨a3, c3, rfl⟩ := own_form hown3
      clear hown3 hgrow3 hat3 hb03
      go_wp2_with fail
      go_meet
      exact ⟨a3, c3, rfl, Hown3.out, Hb03.out⟩
  case rest =>
    obtain ⟨a3, c3, rfl, hown3, hb3⟩ := hcut
    have hbl : (block v).length ≤ 2 ^ 21 := block_len v (by omega)
    obtain ⟨bv, hbv⟩ : ∃ bv, bv = block v := ⟨_, rfl⟩
    rw [← hbv] at hown3 hbl ⊢
    have hcm := CmdV.write_own (by omega) hown3
    have hst := whole_steps wc bv a3 c3 hcm
    have Hbv := Lib.hid hbv
    have Hb3 := Lib.hid hb3
    have Hst := Lib.hid hst
    clear hown3 hbv hb3 hcm hst Hi
    go_wp2_with fail
    refine (whole_any _ _ _ _).mono ?_
    rintro e w4 ⟨rfl, hw4⟩
    rw [← hw4] at Hst
    have hb4 : Below W.heap.size W w4 := by rw [hw4]; exact Hb3.out.alloc Hb3.out.size _
    have hE4 : Env w4.heap.size w4 aI aN aL := (HE.out.below hb4).mono hb4.size
    have Hb4 := Lib.hid hb4
    have HE4 := Lib.hid hE4
    clear hw4 hb4 hE4
    go_wp2_with fail
    refine (decode_whole w4 4096 aI aN aL wc.heap.size bv _ (by decide) HE4.out Hst.out (by omega)).mono ?_
    rintro e w5 ⟨g5, c5, rfl, hans, hb5⟩
    have hrd := read_whole hans (by omega)
    rw [Hbv.out, rd_block 4096 v (by omega)] at hrd
    have Hrd := Lib.hid hrd
    have hb05 := Hb4.out.trans (hb5.mono Hb4.out.size)
    have Hb05 := Lib.hid hb05
    clear hans hrd hb5 hb05
    go_wp2_with fail
    refine Hrd.out.mono ?_
    rintro e w6 ⟨a6, c6, rfl, hown6, hb6⟩
    have hfs := FSl.of_own hown6
    have Hb06 := Lib.hid (Hb05.out.trans (hb6.mono Hb05.out.size))
    clear hown6 hb6
    have Hs6 : Hid (SrcAny sa cap v w6) := Lib.hid (srcAny_mono Hs.out Hb06.out)
    have HE6 := Lib.hid (HE.out.below Hb06.out)
    cases hd : HP.hdec v with
    | none =>
      rw [hd] at hfs
      have Hd := Lib.hid hd
      clear hd hfs
      simp only [List.length_nil, HD.code, HD.idx]
      go_wp2_with fail
      refine (text_any cap sa v aI _ (by omega) Hs6.out HE6.out.len HE6.out.code HE6.out.eI).mono ?_
      rintro e w7 ⟨rfl, hb7⟩
      rw [Hd.out, show textOf none = .tuple #[.string ByteArray.empty, .int .i64 2] from rfl]
      have Hb07 := Lib.hid (Hb06.out.trans (hb7.mono Hb06.out.size))
      clear hb7
      go_wp2_with fail
      go_ret
      exact ⟨rfl, Hb07.out⟩
    | some t =>
      rw [hd] at hfs
      have Hd := Lib.hid hd
      have Hfs := Lib.hid hfs
      clear hd hfs
      simp only [List.length_singleton, HD.code, HD.idx]
      go_wp2_with fail
      refine (text_any cap sa v aI _ (by omega) Hs6.out HE6.out.len HE6.out.code HE6.out.eI).mono ?_
      rintro e w7 ⟨rfl, hb7⟩
      rw [Hd.out, show textOf (some t) = .tuple #[.string ⟨t.toArray⟩, .int .i64 0] from rfl]
      have Hb07 := Lib.hid (Hb06.out.trans (hb7.mono Hb06.out.size))
      have Hfs7 := Lib.hid (Hfs.out.mono hb7)
      clear hb7
      go_wp2_with fail
      have ho := own_new (w := w7) #[.string ⟨#[97]⟩, .string ⟨t.toArray⟩, .bool false] 42 3 1 rfl (by decide)
      have hb8 : Below w7.heap.size w7 (w7.alloc (.cells #[.string ⟨#[97]⟩, .string ⟨t.toArray⟩, .bool false] 42)) := (Below.refl _ _).alloc (Nat.le_refl _) _
      have hf2 : FSl (w7.alloc (.cells #[.string ⟨#[97]⟩, .string ⟨t.toArray⟩, .bool false] 42)) (.slice (some ⟨w7.heap.size, 0, none⟩) 1 1) [⟨[97], t, false⟩] := FSl.of_own (e := 42) ho
      refine (equal_any [⟨[97], t, false⟩] [⟨[97], t, false⟩] _ _ _ (Hfs7.out.mono hb8) hf2 (by simp)).mono ?_
      rintro e w9 ⟨rfl, hb9⟩
      have he : decide (([⟨[97], t, false⟩] : List HD.Fld) = [⟨[97], t, false⟩]) = true := decide_eq_true rfl
      rw [he]
      have Hb09 := Lib.hid ((Hb07.out.trans (hb8.mono Hb07.out.size)).trans (hb9.mono (Nat.le_trans Hb07.out.size hb8.size)))
      clear hb9 ho hf2 hb8
      go_wp2_with fail
      go_ret
      exact ⟨rfl, Hb09.out⟩

theorem walk (sa : Option Addr) (cap : Nat) (v : HD.Bs) (W : World) (hs : SrcAny sa cap v W) (hc : v.length ≤ maxLen) (aI aN aL : Addr) (hE : Env W.heap.size W aI aN aL) :
    Calls Tryd.prog 8 #[.slice sa v.length cap] W fun e W' => e = .returned (.bool true) ∧ Below W.heap.size W W' := by
  rcases Nat.lt_or_ge 2147483647 v.length with h1 | h1
  · have hd1 : decide ((2147483647 : Int) < (v.length : Int)) = true := by simp; omega
    clear hE hs
    go_enter Tryd.func8, Tryd.ntmps8
    go_wp2_with fail
    go_ret
    exact ⟨rfl, Below.refl _ _⟩
  · rcases Nat.lt_or_ge 1048576 v.length with h2 | h2
    · have hd1 : decide ((2147483647 : Int) < (v.length : Int)) = false := by simp; omega
      have hd2 : decide ((1048576 : Int) < (v.length : Int)) = true := by simp; omega
      clear hE hs
      go_enter Tryd.func8, Tryd.ntmps8
      go_wp2_with fail
      go_ret
      exact ⟨rfl, Below.refl _ _⟩
    · exact main sa cap v W hs aI aN aL hE h2 hc
theorem tables {W : World} (h : laidMetH Tryd.prog Rows.fnDecodeHuffmanRow.laid W) : ∃ aI aN aL, Env W.heap.size W aI aN aL := by
  rw [show Rows.fnDecodeHuffmanRow.laid = envList by unfold envList; rw [← laidCode, ← laidLen]; rfl] at h
  exact env_of h

theorem own : ownKnob Tryd.prog.godebug = none := by kernel_rfl
theorem laidOut : laidOutB Tryd.prog = true := by kernel_rfl
/-- A world for the witness: the settled one, the variables holding what the program's own initialisers lay. -/
noncomputable def laidWorld (os : Os) : World :=
  let w0 := World.holding Tryd.prog os ⟨#[.cells #[.string ⟨#[98, 121, 116, 101, 115, 46, 66, 117, 102, 102, 101, 114, 58, 32, 116, 111, 111, 32, 108, 97, 114, 103, 101]⟩] 123, .cells #[.string ⟨#[104, 112, 97, 99, 107, 58, 32, 115, 116, 114, 105, 110, 103, 32, 116, 111, 111, 32, 108, 111, 110, 103]⟩] 123, .cells #[.string ⟨#[110, 101, 101, 100, 32, 109, 111, 114, 101, 32, 100, 97, 116, 97]⟩] 123, .cells #[.string ⟨#[104, 112, 97, 99, 107, 58, 32, 105, 110, 118, 97, 108, 105, 100, 32, 72, 117, 102, 102, 109, 97, 110, 45, 101, 110, 99, 111, 100, 101, 100, 32, 100, 97, 116, 97]⟩] 123], #[], []⟩
  { w0 with heap := ((((((w0.heap).modify 5 (laidTab #[.iface 121 (.pointer (some ⟨(World.settled Tryd.prog os).heap.size + 0, 0, none⟩))])).modify 1 (laidTab #[.iface 121 (.pointer (some ⟨(World.settled Tryd.prog os).heap.size + 1, 0, none⟩))])).modify 2 (laidTab #[.iface 121 (.pointer (some ⟨(World.settled Tryd.prog os).heap.size + 2, 0, none⟩))])).modify 0 (laidTab #[.iface 121 (.pointer (some ⟨(World.settled Tryd.prog os).heap.size + 3, 0, none⟩))])).modify 3 (laidTab (tabVals Rows.laid_loop_example_pub_g03022_pub_hpack_huffmanCodes))).modify 4 (laidTab (tabVals Rows.laid_loop_example_pub_g03022_pub_hpack_huffmanCodeLen)) }
theorem laid_met (os : Os) (args : Array Value) : laidMetH Tryd.prog Rows.fnDecodeHuffmanRow.laid ((laidWorld os).forCall (fun _ _ => 0) ⟨#[], args, []⟩).memory :=
  laidMetH_of_parts3 (fuel := 8) (laidMet_of_run3 8 (by kernel_rfl) (by kernel_rfl) (by kernel_rfl)) (by kernel_rfl) (by kernel_rfl)
theorem reads (os : Os) {H : Type} (enc : TypeId × Value → H) : (DataW.whole enc Tryd.prog ((laidWorld os).forCall (fun _ _ => 0) ⟨#[], #[.slice none 0 0], []⟩).memory Tryd.f8.params.toList Rows.fnDecodeHuffmanSpec.vars false (#[.slice none 0 0] : Array Value).toList 8).isSome = true := by kernel_rfl

set_option maxRecDepth 100000 in
theorem lifted (os : Os) (started : os.Started) (H : Type) (enc : TypeId × Value → H) (F : Stop.Interp) :
    ReturnsInHanded {} Tryd.checked os 8 .any ((OpenSpec.ofChange Rows.fnDecodeHuffmanSpec).preRow enc Tryd.prog Tryd.f8 Rows.fnDecodeHuffmanRow.domain false Rows.fnDecodeHuffmanRow.laid) (((OpenSpec.ofChange Rows.fnDecodeHuffmanSpec).at F).post enc Tryd.prog Tryd.f8 false true false false) := by
  obtain ⟨x, hx⟩ := Option.isSome_iff_exists.1 (reads os enc)
  refine returnsInHanded_of_row (C := Tryd.checked) (s := OpenSpec.ofChange Rows.fnDecodeHuffmanSpec) own started (by kernel_rfl) Tryd.func8
    (witness_row_atRef (enc := enc) (C := Tryd.checked) false (laidWorld os) #[.slice none 0 0] rfl (by kernel_rfl) (by kernel_rfl) (by kernel_rfl)
      (OpenSpec.preRow_of_cond 8 hx rfl (fun k hk => by cases hk) (by kernel_rfl) (laid_met os _))) ?_
  intro W base args ds gs before hval hW _ _ _ hL _ _
  have hW' := hW
  obtain ⟨p, q, hA0, hV, rfl, _, _⟩ := hW
  have hA : DataW.TrodAll enc Tryd.prog W 0 (fun _ => true) true Tryd.f8.params.toList args.toList ds p := hA0
  rw [Tryd.params8] at hA hval
  obtain ⟨v0, vs0, d0, ds0, p0, q0, hargs, rfl, rfl, h0, r0⟩ := trodAll_cons hA
  obtain ⟨rfl, rfl, rfl⟩ := trodAll_nil r0
  obtain rfl : args = #[v0] := by cases args; simp_all
  obtain ⟨g0, g1, g2, g3, g4, rfl⟩ := list5 (trodVars_length _ _ _ hV)
  obtain ⟨sa0, cap0, b, rfl, hs0, hm0⟩ := open_bytes (hval 0 22 v0 rfl rfl) h0
  have ht := tables hL
  refine (walk sa0 cap0 b W hs0 hm0 ht.choose ht.choose_spec.choose ht.choose_spec.choose_spec.choose ht.choose_spec.choose_spec.choose_spec).mono fun e W' ⟨he, hb⟩ => ?_
  subst he
  exact ⟨_, rfl, post_law laidOut (by rw [Tryd.params8]; intro t ht; simp at ht; subst ht; exact ⟨by kernel_rfl, of_decide_eq_true (by kernel_rfl)⟩) rfl Tryd.underlying4 (by kernel_rfl) rfl hW' hb⟩

theorem said : Rows.FnDecodeHuffmanSaid :=
  OpenClaim.holds_of_cond 8 Tryd.f8 rfl rfl rfl rfl rfl rfl rfl ⟨rfl, rfl, rfl, rfl, rfl⟩ rfl rfl rfl rfl rfl (by kernel_rfl) Tryd.func8 (by kernel_rfl)
    (of_decide_eq_true (by kernel_rfl)) (by unfold Func.isWrapper; first | (rw [if_pos (by decide +kernel)]; kernel_rfl) | (rw [if_neg (by decide +kernel)]; exact ⟨rfl, rfl⟩))
    (fun os started H enc _ F => by rw [OpenClaim.pre_eq_preRow]; exact lifted os started H enc F)

theorem plain (f : FuncId) (fn : Func) (hf : Tryd.pinned.checked.prog.funcNamed "loop.example/pub-g03022/laws.FnDecodeHuffman" = some f) (hfn : Tryd.pinned.checked.prog.funcs[f]? = some fn) :
    true = Tryd.pinned.checked.prog.looks [] ∧ ∀ (j : Nat) t, fn.params[j]? = some t → Tryd.pinned.checked.prog.wantsStandIn t = false := by
  obtain rfl : f = 8 := Option.some.inj ((show Tryd.prog.funcNamed "loop.example/pub-g03022/laws.FnDecodeHuffman" = some 8 by kernel_rfl).symm.trans hf) |>.symm
  obtain rfl : fn = Tryd.f8 := (Option.some.inj (Tryd.func8.symm.trans hfn)).symm
  refine ⟨by kernel_rfl, fun j t ht => ?_⟩
  have hall : ∀ t ∈ Tryd.f8.params.toList, Tryd.prog.wantsStandIn t = false := by
    have : (Tryd.f8.params.toList.all fun t => !Tryd.prog.wantsStandIn t) = true := by kernel_rfl
    intro t ht
    have := List.all_eq_true.1 this t ht
    simpa using this
  exact hall t (by simpa using Array.mem_of_getElem? ht)

/-- THE CARD. -/
theorem card : Rows.FnDecodeHuffmanCardSaid :=
  Claim7.holds_tied_plain_at .later [] _ _ _ _ said (fun _ h => by cases h) (by kernel_rfl) (fun _ h => by cases h) fnDecodeHuffman_row_tie rfl ⟨rfl, rfl⟩ (by kernel_rfl) rfl plain (by kernel_rfl)
#print axioms card
end Go.Proofs.YtlkpeeoippbdoaaDoor.FnDecodeHuffman
