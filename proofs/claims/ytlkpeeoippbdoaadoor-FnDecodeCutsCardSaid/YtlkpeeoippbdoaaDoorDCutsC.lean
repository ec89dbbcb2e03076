/-
  FnDecodeCuts: it is the same however a block is cut into calls of Write. No condition.
-/
import Derived.Test.YtlkpeeoippbdoaaDoorMl4
namespace Go.Proofs.YtlkpeeoippbdoaaDoor.FnDecodeCuts
open Go.ChangeShapes Go.WideShapes Go.ChangeAt Go.RowKit

theorem srcAny_mono {sa : Option Addr} {cap : Nat} {v : List UInt8} {w w' : World} (h : SrcAny sa cap v w) (hb : Below w.heap.size w w') : SrcAny sa cap v w' :=
  h.imp id fun ⟨a, e, hc⟩ => ⟨a, e, fun q u hu => (hb.cell (World.block_lt_of_cell? _ _ (hc q u hu))).trans (hc q u hu)⟩

/-- What stands in memory when the loop over the cuts comes round: pieces of the block up to place f. -/
structure CInv (W wr : World) (v : HD.Bs) (g cap f k : Nat) (ps : List HD.Bs) (bs : List Value) : Prop where
  len : bs.length = ps.length
  flat : ps.flatten = v.take f
  le : f ≤ v.length
  few : ps.length ≤ k
  own : wr.ownsRow W.heap.size 27 4 (.slice (some ⟨g, 0, none⟩) ps.length cap) ps.length (stepCells (ps.map HD.Cmd.write) bs)
  cmd : ∀ i (h : i < ps.length) (h' : i < bs.length), CmdV W (.write ps[i]) bs[i]
  cap : ps.length ≤ cap
  below : Below W.heap.size W wr

theorem CInv.push {W wr w2 : World} {v pc : HD.Bs} {g cap f c k : Nat} {ps : List HD.Bs} {bs : List Value} {o : Obj} {v2 bval : Value} (h : CInv W wr v g cap f k ps bs) (hfc : f ≤ c) (hcv : c ≤ v.length) (hpc : pc = (v.drop f).take (c - f))
    (hown : w2.ownsRow W.heap.size 27 4 v2 (ps.length + 1) (stepCells (ps.map HD.Cmd.write) bs ++ cmdCells (.write pc) bval)) (hcm : CmdV W (.write pc) bval) (hgrow : (wr.alloc o).grownBy w2 (Value.slice (some ⟨g, 0, none⟩) ps.length cap).ownBlock) :
    ∃ g2 cap2, v2 = .slice (some ⟨g2, 0, none⟩) (ps ++ [pc]).length cap2 ∧ CInv W w2 v g2 cap2 c (k + 1) (ps ++ [pc]) (bs ++ [bval]) := by
  obtain ⟨g2, cap2, rfl, hc2, -⟩ := own_some hown (by omega)
  have hl : (ps ++ [pc]).length = ps.length + 1 := by simp
  refine ⟨g2, cap2, by rw [hl], ⟨by simp [h.len], ?_, hcv, by rw [hl]; have := h.few; omega, ?_, ?_, by rw [hl]; exact hc2, ?_⟩⟩
  · rw [List.flatten_append, h.flat, List.flatten_singleton, hpc, ← List.take_add]
    congr 1; omega
  · rw [hl, List.map_append, List.map_singleton, stepCells_append _ _ _ _ (by rw [List.length_map]; exact h.len)]
    simpa [stepCells] using hown
  · intro i h1 h2
    by_cases hi : i < ps.length
    · have := h.cmd i hi (by rw [h.len]; exact hi)
      rwa [List.getElem_append_left hi, List.getElem_append_left (by rw [h.len]; exact hi)]
    · obtain rfl : i = ps.length := by omega
      rw [List.getElem_append_right (Nat.le_refl _), List.getElem_append_right (by rw [h.len]; exact Nat.le_refl _)]
      simpa using hcm
  · exact (h.below.alloc h.below.size _).grown hgrow (by simp; have := h.below.size; omega) (fun g' hg => (h.own.lt g' hg).1)
theorem cmd_piece {W : World} {v pc : HD.Bs} {a : Addr} {f c cap : Nat} (hl : v.length < 2 ^ 40) (hcv : c ≤ v.length) (hfc : f ≤ c) (hpc : pc = (v.drop f).take (c - f)) (hsrc : ∀ q u, (Lib.byteCells v)[q]? = some u → W.cell? (a.add q) = some u) : CmdV W (.write pc) (.slice (some (a.add f)) (c - f) (cap - f)) := by
  have hpl : pc.length = c - f := by rw [hpc, List.length_take, List.length_drop]; omega
  refine ⟨by show pc.length < _; omega, by show 0 < _; decide, Or.inr ⟨a.add f, cap - f, by show _ = Value.slice _ pc.length _; rw [hpl], fun q u hu => ?_, rfl⟩⟩
  have hq : q < pc.length := by
    have := (List.getElem?_eq_some_iff.1 hu).1
    rwa [byteCells_len] at this
  rw [Addr.add_add]
  refine hsrc (f + q) u ?_
  rw [← hu]
  show (Lib.byteCells v)[f + q]? = (Lib.byteCells pc)[q]?
  simp only [Lib.byteCells, List.getElem?_map, hpc, List.getElem?_take, List.getElem?_drop]
  rw [if_pos (by omega)]

theorem one_rd (size : Nat) : HD.rd [] (HD.drun (st0 size) (wholeCmds [130])) = ([⟨[58, 109, 101, 116, 104, 111, 100], [71, 69, 84], false⟩], none) := by
  have h : HD.pRepr (st0 size).st [130] = .ok [] size (some ⟨[58, 109, 101, 116, 104, 111, 100], [71, 69, 84], false⟩) [] := rfl
  have hw : HD.write (st0 size).st (st0 size).save [130] = ⟨{ (st0 size).st with first := false }, [⟨[58, 109, 101, 116, 104, 111, 100], [71, 69, 84], false⟩], [], none⟩ := by
    rw [HD.write, if_neg (by simp)]
    show HD.wr 1 (st0 size).st [] [130] = _
    rw [HD.wr, h]
    rfl
  simp only [wholeCmds, HD.drun, HD.dstep, hw, HD.rd, HD.close]
  simp
theorem rd_len : ∀ (A : List HD.Ans) (acc : List HD.Fld), (HD.rd acc A).1.length ≤ acc.length + (A.map fun a => a.out.length).sum
  | [], acc => by simp [HD.rd]
  | a :: A, acc => by
    rw [HD.rd]
    cases a.err with
    | some e => simp
    | none =>
      have := rd_len A (acc ++ a.out)
      simp at this ⊢
      omega
theorem len_flatten {ps : List HD.Bs} {p : HD.Bs} (h : p ∈ ps) : p.length ≤ ps.flatten.length := by
  induction ps with
  | nil => cases h
  | cons q ps ih =>
    rw [List.flatten_cons, List.length_append]
    rcases List.mem_cons.1 h with rfl | h
    · omega
    · have := ih h; omega
theorem CInv.fin {W wr w4 : World} {v q : HD.Bs} {g cap f k g2 cap2 : Nat} {ps : List HD.Bs} {bs : List Value} {qv : Value} (h : CInv W wr v g cap f k ps bs)
    (hown : w4.ownsRow W.heap.size 27 4 (.slice (some ⟨g2, 0, none⟩) (ps.length + 2) cap2) (ps.length + 2) (stepCells (ps.map HD.Cmd.write) bs ++ (cmdCells (.write q) qv ++ cmdCells .close (.slice none 0 0)))) (hcm : CmdV W (.write q) qv) (hb : Below W.heap.size W w4) :
    StepsMem w4 g2 0 (ps.map HD.Cmd.write ++ [.write q, .close]) (bs ++ [qv, .slice none 0 0]) := by
  refine steps_of_own (B := W.heap.size) (n := ps.length + 2) (cap := cap2) (by simp [h.len]) ?_ ?_
  · rw [stepCells_append _ _ _ _ (by rw [List.length_map]; exact h.len)]
    simpa [stepCells] using hown
  · intro i h1 h2
    refine CmdV.of_below ?_ hb
    by_cases hi : i < ps.length
    · have := h.cmd i hi (by rw [h.len]; exact hi)
      rw [List.getElem_append_left (by rw [List.length_map]; exact hi), List.getElem_append_left (by rw [h.len]; exact hi), List.getElem_map]
      exact this
    · have hl1 : (ps.map HD.Cmd.write).length = ps.length := List.length_map _
      rw [List.getElem_append_right (by omega), List.getElem_append_right (by rw [h.len]; omega)]
      simp only [hl1, h.len]
      simp only [List.length_append, hl1, List.length_cons, List.length_nil] at h1
      rcases (show i - ps.length = 0 ∨ i - ps.length = 1 by omega) with e | e
      · simpa [e] using hcm
      · simpa [e] using (CmdV.plain (w := W) (c := .close) rfl (by show 0 < _; decide))

set_option maxHeartbeats 4000000 in
set_option maxRecDepth 100000 in
theorem main (size : Nat) (sa : Option Addr) (cap : Nat) (v : HD.Bs) (sc : Option Addr) (cc : Nat) (zs : List Int) (W : World) (hs : SrcAny sa cap v W) (hz : IntsAny sc cc zs W) (aI aN aL : Addr) (hE : Env W.heap.size W aI aN aL) (hsz : size ≤ 2 ^ 31) (hv : v.length ≤ 1048576) (hc : v.length ≤ cap) (hzl : zs.length ≤ 1048576) :
    Calls Tryd.prog 3 #[.int .i64 (size : Nat), .slice sa v.length cap, .slice sc zs.length cc] W fun e W' => e = .returned (.bool true) ∧ Below W.heap.size W W' := by
  have d1 : decide ((2147483647 : Int) < (v.length : Int)) = false := by simp; omega
  have d2 : decide ((2147483647 : Int) < (zs.length : Int)) = false := by simp; omega
  have d3 : decide ((1048576 : Int) < (v.length : Int)) = false := by simp; omega
  have d4 : decide ((1048576 : Int) < (zs.length : Int)) = false := by simp; omega
  have d5 : decide (0 ≤ (size : Int) ∧ (size : Int) ≤ 2147483648) = true := decide_eq_true ⟨by omega, by omega⟩
  have HE := Lib.hid hE
  have Hs := Lib.hid hs
  have Hz := Lib.hid hz
  obtain ⟨i0, hi, hz0, hz1, hzb⟩ := info_parts infoDS'
  have Hi := Lib.hid hi
  clear hE hs hz hi
  go_enter Tryd.func3, Tryd.ntmps3
  go_wp2_with fail
  refine (isSize_any _ _).mono ?_
  rintro e w1 ⟨rfl, hw1⟩
  subst hw1
  rw [d5]
  clear d5
  go_wp2_with fail
  obtain ⟨n, hn⟩ : ∃ n, n = zs.length := ⟨_, rfl⟩
  rw [← hn]
  have hst : CInv w1 (w1.alloc (.cells #[] 27)) v w1.heap.size 0 0 0 [] [] :=
    ⟨rfl, rfl, Nat.zero_le _, Nat.le_refl _, ⟨rfl, Or.inr ⟨w1.heap.size, 0, #[], rfl, Nat.le_refl _, heap_alloc_new w1 _, Nat.le_refl _, by decide, rfl, rfl⟩⟩, fun i h => by simp at h, Nat.le_refl _, (Below.refl _ _).alloc (Nat.le_refl _) _⟩
  have Hst := Lib.hid hst
  have Hn := Lib.hid hn
  clear hst hn
  go_loopw [7, 8, 44] (fun v7 v8 v44 wr => ∃ (g cap f k : Nat) (ps : List HD.Bs) (bs : List Value), v7 = .slice (some ⟨g, 0, none⟩) ps.length cap ∧ v8 = .int .i64 (f : Nat) ∧ v44 = .int .i64 (k : Nat) ∧ k ≤ n ∧ CInv w1 wr v g cap f k ps bs) (fun _ _ v44 _ => n - (intOf v44).toNat)
  case atStart => exact ⟨w1.heap.size, 0, 0, 0, [], [], rfl, rfl, rfl, Nat.zero_le _, Hst.out⟩
  case round =>
    obtain ⟨g, cap1, f, k, ps, bs, rfl, rfl, rfl, hk, hI⟩ := hrel
    have HI := Lib.hid hI
    have hfl := hI.le
    have hfew := hI.few
    have hcap := hI.cap
    have hsz1 := hI.below.size
    clear hI
    rcases Nat.lt_or_ge k n with hlt | hge
    · have hkz : k < zs.length := by rw [← Hn.out]; exact hlt
      have hkN : decide (k < n) = true := decide_eq_true hlt
      have hkI : (k : Int) < (n : Int) := by omega
      obtain ⟨z, hz⟩ : ∃ z, z = zs[k] := ⟨_, rfl⟩
      obtain ⟨ac, rfl, hcc, hzc⟩ := Hz.out.resolve_left (fun h => by rw [h.2.2] at hkz; simp at hkz)
      have q := (HI.out.below.cell (World.block_lt_of_cell? _ _ (hzc k zs[k] (List.getElem?_eq_getElem hkz)))).trans (hzc k zs[k] (List.getElem?_eq_getElem hkz))
      rw [← hz] at q
      have Hzk := Lib.hid hz
      clear hzc hz
      by_cases h1 : (f : Int) ≤ z
      · by_cases h2 : z ≤ (v.length : Int)
        · obtain ⟨c, rfl⟩ := Int.eq_ofNat_of_zero_le (show 0 ≤ z by omega)
          have hfc : f ≤ c := by omega
          have hcv : c ≤ v.length := by omega
          have e1 : decide ((f : Int) ≤ (c : Int)) = true := decide_eq_true h1
          have e2 : decide ((c : Int) ≤ (v.length : Int)) = true := decide_eq_true h2
          rcases Hs.out with ⟨rfl, rfl, -⟩ | ⟨a, rfl, hsrc⟩
          · obtain rfl : c = 0 := by omega
            obtain rfl : f = 0 := by omega
            go_upto_region 11 with (fail)
            go_wp2_with (at_builtin; (refine wpList_append_own_at _ rfl _ _ 25 rfl w1.heap.size 27 i0 (.agg #[.int .i64 0, .slice none 0 0, .int .i64 0, .bool false]) 4 48 Tryd.underlying25 Hi.out hz0 hz1 hzb rfl (by decide) (.slice (some ⟨g, 0, none⟩) ps.length cap1) ps.length (stepCells (ps.map HD.Cmd.write) bs) rfl ?a1 ⟨wr.heap.size, 0, none⟩ 1 1 (cmdCells (.write []) (.slice none 0 0)) rfl rfl ?a2 ?a3 ?a4 ?a5 ?a6 ?_))
            case a1 => exact ownsRow_of_heap HI.out.own fun g hg => Below.heap_alloc _ _ _ (HI.out.own.lt g hg).2
            case a2 => exact news_of_new wr (cmdCells (.write []) (.slice none 0 0)) _
            case a3 => intro u hu; simp [cmdCells] at hu; rcases hu with rfl | rfl | rfl | rfl <;> rfl
            case a4 => unfold maxLen; omega
            case a5 => omega
            case a6 => simp; omega
            intro v2 w2 hown2 hgrow2 _ hat2
            go_wp2_with fail
            obtain ⟨g2, cap2, rfl, hI2⟩ := HI.out.push (pc := []) (Nat.le_refl _) (Nat.zero_le _) (by simp) hown2 (CmdV.plain rfl (by show 0 < _; decide)) hgrow2
            exact ⟨⟨g2, cap2, 0, k + 1, _, _, rfl, rfl, by go_num, hlt, hI2⟩, by simp [intOf]; omega⟩
          · have hcI : (c : Int) ≤ (cap : Int) := by omega
            have hccap : c ≤ cap := by omega
            by_cases hfe : f = cap
            · obtain rfl : c = f := by omega
              subst hfe
              go_upto_region 11 with (fail)
              go_wp2_with (at_builtin; (refine wpList_append_own_at _ rfl _ _ 25 rfl w1.heap.size 27 i0 (.agg #[.int .i64 0, .slice none 0 0, .int .i64 0, .bool false]) 4 48 Tryd.underlying25 Hi.out hz0 hz1 hzb rfl (by decide) (.slice (some ⟨g, 0, none⟩) ps.length cap1) ps.length (stepCells (ps.map HD.Cmd.write) bs) rfl ?a1 ⟨wr.heap.size, 0, none⟩ 1 1 (cmdCells (.write []) (.slice (some a) 0 0)) rfl rfl ?a2 ?a3 ?a4 ?a5 ?a6 ?_))
              case a1 => exact ownsRow_of_heap HI.out.own fun g hg => Below.heap_alloc _ _ _ (HI.out.own.lt g hg).2
              case a2 => exact news_of_new wr (cmdCells (.write []) (.slice (some a) 0 0)) _
              case a3 => intro u hu; simp [cmdCells] at hu; rcases hu with rfl | rfl | rfl | rfl <;> rfl
              case a4 => unfold maxLen; omega
              case a5 => omega
              case a6 => simp; omega
              intro v2 w2 hown2 hgrow2 _ hat2
              go_wp2_with fail
              obtain ⟨g2, cap2, rfl, hI2⟩ := HI.out.push (pc := []) (Nat.le_refl _) hcv (by simp) hown2 ⟨by decide, by show 0 < _; decide, Or.inr ⟨a, 0, rfl, fun q u hu => by simp [HD.Cmd.bytes, Lib.byteCells] at hu, rfl⟩⟩ hgrow2
              exact ⟨⟨g2, cap2, _, k + 1, _, _, rfl, rfl, by go_num, hlt, hI2⟩, by simp [intOf]; omega⟩
            · have hfl2 : f < cap := by omega
              obtain ⟨bv, hbv⟩ : ∃ bv, bv = Value.slice (some (a.add f)) (c - f) (cap - f) := ⟨_, rfl⟩
              obtain ⟨pc, hpc⟩ : ∃ pc, pc = (v.drop f).take (c - f) := ⟨_, rfl⟩
              have hpl : pc.length = c - f := by rw [hpc, List.length_take, List.length_drop]; omega
              go_upto_region 11 with (fail)
              go_wp2_with (at_builtin; (refine wpList_append_own_at _ rfl _ _ 25 rfl w1.heap.size 27 i0 (.agg #[.int .i64 0, .slice none 0 0, .int .i64 0, .bool false]) 4 48 Tryd.underlying25 Hi.out hz0 hz1 hzb rfl (by decide) (.slice (some ⟨g, 0, none⟩) ps.length cap1) ps.length (stepCells (ps.map HD.Cmd.write) bs) rfl ?a1 ⟨wr.heap.size, 0, none⟩ 1 1 (cmdCells (.write pc) (.slice (some (a.add f)) (c - f) (cap - f))) rfl rfl ?a2 ?a3 ?a4 ?a5 ?a6 ?_))
              case a1 => exact ownsRow_of_heap HI.out.own fun g hg => Below.heap_alloc _ _ _ (HI.out.own.lt g hg).2
              case a2 => exact news_of_new wr (cmdCells (.write pc) (.slice (some (a.add f)) (c - f) (cap - f))) _
              case a3 => intro u hu; simp [cmdCells] at hu; rcases hu with rfl | rfl | rfl | rfl <;> rfl
              case a4 => unfold maxLen; omega
              case a5 => omega
              case a6 => simp; omega
              intro v2 w2 hown2 hgrow2 _ hat2
              go_wp2_with fail
              obtain ⟨g2, cap2, rfl, hI2⟩ := HI.out.push hfc hcv hpc hown2 (cmd_piece (by omega) hcv hfc hpc hsrc) hgrow2
              exact ⟨⟨g2, cap2, c, k + 1, _, _, rfl, rfl, by go_num, hlt, hI2⟩, by simp [intOf]; omega⟩
        · have e1 : decide ((f : Int) ≤ z) = true := decide_eq_true h1
          have e2 : decide (z ≤ (v.length : Int)) = false := decide_eq_false h2
          go_wp2_with fail
          exact ⟨⟨g, cap1, f, k + 1, ps, bs, rfl, rfl, by go_num, hlt, ⟨HI.out.len, HI.out.flat, HI.out.le, by omega, HI.out.own, HI.out.cmd, HI.out.cap, HI.out.below⟩⟩, by simp [intOf]; omega⟩
      · have e1 : decide ((f : Int) ≤ z) = false := decide_eq_false h1
        go_wp2_with fail
        exact ⟨⟨g, cap1, f, k + 1, ps, bs, rfl, rfl, by go_num, hlt, ⟨HI.out.len, HI.out.flat, HI.out.le, by omega, HI.out.own, HI.out.cmd, HI.out.cap, HI.out.below⟩⟩, by simp [intOf]; omega⟩
    · obtain rfl : k = n := Nat.le_antisymm hk hge
      have hps : ps.length ≤ 1048576 := by have := Hn.out; omega
      clear hk hge
      go_upto_region 14 with (fail)
      go_cut [7] from 67 (fun v7 wx => ∃ (g2 cap2 : Nat) (qv : Value), v7 = .slice (some ⟨g2, 0, none⟩) (ps.length + 2) cap2 ∧ cap2 ≤ maxLen ∧ ps.length + 2 ≤ cap2 ∧ StepsMem wx g2 0 (ps.map HD.Cmd.write ++ [HD.Cmd.write (v.drop f), HD.Cmd.close]) (bs ++ [qv, .slice none 0 0]) ∧ Below w1.heap.size w1 wx)
      case first =>
        rcases Hs.out with ⟨rfl, rfl, hv0⟩ | ⟨a, rfl, hsrc⟩
        · obtain rfl : f = 0 := by omega
          have Hv0 := Lib.hid hv0
          clear hv0
          go_wp2_with fail
          refine (whole_any _ _ _ _).mono ?_
          rintro e w3 ⟨rfl, hw3⟩
          have hn3 : ∀ j u, (cmdCells (.write (v.drop 0)) (.slice none 0 0) ++ cmdCells .close (.slice none 0 0))[j]? = some u → w3.cell? ((⟨wr.heap.size, 0, none⟩ : Addr).add j) = some u := by
            rw [hw3]
            exact news_of_new wr (cmdCells (.write (v.drop 0)) (.slice none 0 0) ++ cmdCells .close (.slice none 0 0)) _
          have ho3 : w3.ownsRow w1.heap.size 27 4 (.slice (some ⟨g, 0, none⟩) ps.length cap1) ps.length (stepCells (ps.map HD.Cmd.write) bs) := by
            rw [hw3]
            exact ownsRow_of_heap HI.out.own fun g hg => Below.heap_alloc _ _ _ (HI.out.own.lt g hg).2
          have hb3 : Below w1.heap.size w1 w3 := by rw [hw3]; exact HI.out.below.alloc HI.out.below.size _
          have Hn3 := Lib.hid hn3
          have Ho3 := Lib.hid ho3
          have Hb3 := Lib.hid hb3
          clear hn3 ho3 hb3 hw3
          go_wp2_with (at_builtin; (refine wpList_append_own_at _ rfl _ _ 25 rfl w1.heap.size 27 i0 (.agg #[.int .i64 0, .slice none 0 0, .int .i64 0, .bool false]) 4 48 Tryd.underlying25 Hi.out hz0 hz1 hzb rfl (by decide) (.slice (some ⟨g, 0, none⟩) ps.length cap1) ps.length (stepCells (ps.map HD.Cmd.write) bs) rfl ?a1 ⟨wr.heap.size, 0, none⟩ 2 2 (cmdCells (.write (v.drop 0)) (.slice none 0 0) ++ cmdCells .close (.slice none 0 0)) rfl rfl ?a2 ?a3 ?a4 ?a5 ?a6 ?_))
          case a1 => exact Ho3.out
          case a2 => exact Hn3.out
          case a3 => intro u hu; simp [cmdCells] at hu; rcases hu with rfl | rfl | rfl | rfl | rfl | rfl | rfl | rfl <;> rfl
          case a4 => unfold maxLen; omega
          case a5 => omega
          case a6 => exact Hb3.out.size
          intro v4 w4 hown4 hgrow4 _ hat4
          have hb4 : Below w1.heap.size w1 w4 := Hb3.out.grown hgrow4 Hb3.out.size (fun g' hg => (Ho3.out.lt g' hg).1)
          obtain ⟨g2, cap2, rfl, hc2, hcm2, -⟩ := own_some hown4 (by omega)
          have hsm := HI.out.fin (q := v.drop 0) (qv := .slice none 0 0) hown4 (CmdV.plain (by rw [Hv0.out]; rfl) (by show 0 < _; decide)) hb4
          have Hsm := Lib.hid hsm
          have Hb4 := Lib.hid hb4
          clear hown4 hgrow4 hat4 hsm hb4
          go_wp2_with fail
          go_meet
          exact ⟨g2, cap2, _, rfl, hcm2, hc2, Hsm.out, Hb4.out⟩
        · by_cases hfe : f = cap
          · obtain rfl : v.length = f := by omega
            have hz1' : cap - v.length = 0 := by omega
            have hvI : (v.length : Int) ≤ (cap : Int) := by omega
            clear hfe
            go_wp2_with fail
            refine (whole_any _ _ _ _).mono ?_
            rintro e w3 ⟨rfl, hw3⟩
            have hn3 : ∀ j u, (cmdCells (.write (v.drop v.length)) (.slice (some a) 0 0) ++ cmdCells .close (.slice none 0 0))[j]? = some u → w3.cell? ((⟨wr.heap.size, 0, none⟩ : Addr).add j) = some u := by
              rw [hw3]
              exact news_of_new wr (cmdCells (.write (v.drop v.length)) (.slice (some a) 0 0) ++ cmdCells .close (.slice none 0 0)) _
            have ho3 : w3.ownsRow w1.heap.size 27 4 (.slice (some ⟨g, 0, none⟩) ps.length cap1) ps.length (stepCells (ps.map HD.Cmd.write) bs) := by
              rw [hw3]
              exact ownsRow_of_heap HI.out.own fun g hg => Below.heap_alloc _ _ _ (HI.out.own.lt g hg).2
            have hb3 : Below w1.heap.size w1 w3 := by rw [hw3]; exact HI.out.below.alloc HI.out.below.size _
            have Hn3 := Lib.hid hn3
            have Ho3 := Lib.hid ho3
            have Hb3 := Lib.hid hb3
            clear hn3 ho3 hb3 hw3
            go_wp2_with (at_builtin; (refine wpList_append_own_at _ rfl _ _ 25 rfl w1.heap.size 27 i0 (.agg #[.int .i64 0, .slice none 0 0, .int .i64 0, .bool false]) 4 48 Tryd.underlying25 Hi.out hz0 hz1 hzb rfl (by decide) (.slice (some ⟨g, 0, none⟩) ps.length cap1) ps.length (stepCells (ps.map HD.Cmd.write) bs) rfl ?a1 ⟨wr.heap.size, 0, none⟩ 2 2 (cmdCells (.write (v.drop v.length)) (.slice (some a) 0 0) ++ cmdCells .close (.slice none 0 0)) rfl rfl ?a2 ?a3 ?a4 ?a5 ?a6 ?_))
            case a1 => exact Ho3.out
            case a2 => exact Hn3.out
            case a3 => intro u hu; simp [cmdCells] at hu; rcases hu with rfl | rfl | rfl | rfl | rfl | rfl | rfl | rfl <;> rfl
            case a4 => unfold maxLen; omega
            case a5 => omega
            case a6 => exact Hb3.out.size
            intro v4 w4 hown4 hgrow4 _ hat4
            have hb4 : Below w1.heap.size w1 w4 := Hb3.out.grown hgrow4 Hb3.out.size (fun g' hg => (Ho3.out.lt g' hg).1)
            obtain ⟨g2, cap2, rfl, hc2, hcm2, -⟩ := own_some hown4 (by omega)
            have hsm := HI.out.fin (q := v.drop v.length) (qv := .slice (some a) 0 0) hown4 (⟨by simp [HD.Cmd.len, HD.Cmd.bytes], by show 0 < _; decide, Or.inr ⟨a, 0, by simp [HD.Cmd.bytes], fun q u hu => by simp [HD.Cmd.bytes, Lib.byteCells] at hu, rfl⟩⟩) hb4
            have Hsm := Lib.hid hsm
            have Hb4 := Lib.hid hb4
            clear hown4 hgrow4 hat4 hsm hb4
            go_wp2_with fail
            go_meet
            exact ⟨g2, cap2, _, rfl, hcm2, hc2, Hsm.out, Hb4.out⟩
          · have hfl2 : f < cap := by omega
            have hfI : (f : Int) ≤ (v.length : Int) := by omega
            have hvI : (v.length : Int) ≤ (cap : Int) := by omega
            go_wp2_with fail
            refine (whole_any _ _ _ _).mono ?_
            rintro e w3 ⟨rfl, hw3⟩
            have hn3 : ∀ j u, (cmdCells (.write (v.drop f)) (.slice (some (a.add f)) (v.length - f) (cap - f)) ++ cmdCells .close (.slice none 0 0))[j]? = some u → w3.cell? ((⟨wr.heap.size, 0, none⟩ : Addr).add j) = some u := by
              rw [hw3]
              exact news_of_new wr (cmdCells (.write (v.drop f)) (.slice (some (a.add f)) (v.length - f) (cap - f)) ++ cmdCells .close (.slice none 0 0)) _
            have ho3 : w3.ownsRow w1.heap.size 27 4 (.slice (some ⟨g, 0, none⟩) ps.length cap1) ps.length (stepCells (ps.map HD.Cmd.write) bs) := by
              rw [hw3]
              exact ownsRow_of_heap HI.out.own fun g hg => Below.heap_alloc _ _ _ (HI.out.own.lt g hg).2
            have hb3 : Below w1.heap.size w1 w3 := by rw [hw3]; exact HI.out.below.alloc HI.out.below.size _
            have Hn3 := Lib.hid hn3
            have Ho3 := Lib.hid ho3
            have Hb3 := Lib.hid hb3
            clear hn3 ho3 hb3 hw3
            go_wp2_with (at_builtin; (refine wpList_append_own_at _ rfl _ _ 25 rfl w1.heap.size 27 i0 (.agg #[.int .i64 0, .slice none 0 0, .int .i64 0, .bool false]) 4 48 Tryd.underlying25 Hi.out hz0 hz1 hzb rfl (by decide) (.slice (some ⟨g, 0, none⟩) ps.length cap1) ps.length (stepCells (ps.map HD.Cmd.write) bs) rfl ?a1 ⟨wr.heap.size, 0, none⟩ 2 2 (cmdCells (.write (v.drop f)) (.slice (some (a.add f)) (v.length - f) (cap - f)) ++ cmdCells .close (.slice none 0 0)) rfl rfl ?a2 ?a3 ?a4 ?a5 ?a6 ?_))
            case a1 => exact Ho3.out
            case a2 => exact Hn3.out
            case a3 => intro u hu; simp [cmdCells] at hu; rcases hu with rfl | rfl | rfl | rfl | rfl | rfl | rfl | rfl <;> rfl
            case a4 => unfold maxLen; omega
            case a5 => omega
            case a6 => exact Hb3.out.size
            intro v4 w4 hown4 hgrow4 _ hat4
            have hb4 : Below w1.heap.size w1 w4 := Hb3.out.grown hgrow4 Hb3.out.size (fun g' hg => (Ho3.out.lt g' hg).1)
            obtain ⟨g2, cap2, rfl, hc2, hcm2, -⟩ := own_some hown4 (by omega)
            have hsm := HI.out.fin (q := v.drop f) (qv := .slice (some (a.add f)) (v.length - f) (cap - f)) hown4 (cmd_piece (by omega) (Nat.le_refl _) hfl (List.take_of_length_le (by rw [List.length_drop]; exact Nat.le_refl _)).symm hsrc) hb4
            have Hsm := Lib.hid hsm
            have Hb4 := Lib.hid hb4
            clear hown4 hgrow4 hat4 hsm hb4
            go_wp2_with fail
            go_meet
            exact ⟨g2, cap2, _, rfl, hcm2, hc2, Hsm.out, Hb4.out⟩
      case rest =>
        obtain ⟨g2, cap2, qv, rfl, hcm2, hc2, hsm, hb2⟩ := hcut
        have hcl : (ps.map HD.Cmd.write ++ [HD.Cmd.write (v.drop f), HD.Cmd.close]).length = ps.length + 2 := by simp
        have hfl3 : (ps.flatten).length = f := by rw [HI.out.flat, List.length_take]; omega
        have hlens : ((ps.map HD.Cmd.write ++ [HD.Cmd.write (v.drop f), HD.Cmd.close]).map HD.Cmd.len).sum = v.length := by
          have h1 : ((ps.map HD.Cmd.write).map HD.Cmd.len).sum = f := by
            rw [List.map_map, ← hfl3, List.length_flatten]
            rfl
          rw [List.map_append, List.sum_append, h1]
          show f + ((v.drop f).length + (0 + 0)) = _
          rw [List.length_drop]; omega
        have hfine : ∀ c ∈ ps.map HD.Cmd.write ++ [HD.Cmd.write (v.drop f), HD.Cmd.close], CmdFine c := by
          intro c hc
          rcases List.mem_append.1 hc with h | h
          · obtain ⟨p, hp, rfl⟩ := List.mem_map.1 h
            have := len_flatten hp
            show p.length ≤ _; omega
          · simp only [List.mem_cons, List.not_mem_nil, or_false] at h
            rcases h with rfl | rfl
            · show (v.drop f).length ≤ _; rw [List.length_drop]; omega
            · trivial
        obtain ⟨r, hr⟩ : ∃ r, r = HD.rd [] (HD.drun (st0 size) (wholeCmds v)) := ⟨_, rfl⟩
        have hr1 : HD.rd [] (HD.drun (st0 size) (ps.map HD.Cmd.write ++ [HD.Cmd.write (v.drop f), HD.Cmd.close])) = r := by
          rw [HD.cuts_rd (v.drop f) ps [] (st0 size) rfl, HI.out.flat, List.take_append_drop, hr]
          rfl
        have hE2 : Env wc.heap.size wc aI aN aL := (HE.out.below hb2).mono hb2.size
        have hdec := decode_steps wc size aI aN aL g2 0 cap2 _ _ hsz hE2 hsm hcm2 (by rw [hcl]; exact hc2) (by rw [hcl]; omega) (by rw [hcl]; omega) hfine (by rw [hlens]; omega)
        have hsum := drun_sum0 size (ps.map HD.Cmd.write ++ [HD.Cmd.write (v.drop f), HD.Cmd.close]) (by rw [hlens]; omega)
        have hdl : (HD.drun (st0 size) (ps.map HD.Cmd.write ++ [HD.Cmd.write (v.drop f), HD.Cmd.close])).length = ps.length + 2 := by rw [HD.drun_len, hcl]
        rw [hcl] at hdec
        obtain ⟨cd, hcd⟩ : ∃ x, x = HD.code r.2 := ⟨_, rfl⟩
        obtain ⟨ci, hci⟩ : ∃ x, x = HD.idx r.2 := ⟨_, rfl⟩
        have Hcd := Lib.hid hcd
        have Hci := Lib.hid hci
        clear hcd hci
        have Hdec := Lib.hid hdec
        have Hr := Lib.hid hr
        have Hb2 := Lib.hid hb2
        have Hr1 := Lib.hid hr1
        have Hsum := Lib.hid hsum
        have Hdl := Lib.hid hdl
        clear hdec hr hb2 hr1 hE2 hsm hfine hlens hsum hdl hcl hfl3
        go_wp2_with fail
        refine Hdec.out.mono ?_
        rintro e w3 ⟨g3, c3, rfl, hans, hb3⟩
        have hrd := hans.read 0 (Nat.zero_le _) (by rw [Hdl.out]; omega) Hsum.out
        rw [List.drop_zero, Hr1.out, Hdl.out, Nat.zero_mul, Nat.sub_zero, Nat.sub_zero] at hrd
        have Hrd := Lib.hid hrd
        have Hb3 := Lib.hid (Hb2.out.trans (hb3.mono Hb2.out.size))
        clear hans hb3 hrd Hdec
        go_wp2_with fail
        refine Hrd.out.mono ?_
        rintro e w4 ⟨a4, c4, rfl, hown4, hb4⟩
        rw [← Hcd.out, ← Hci.out]
        have Hf4 := Lib.hid (FSl.of_own hown4)
        have Hb4 := Lib.hid (Hb3.out.trans (hb4.mono Hb3.out.size))
        clear hown4 hb4
        go_wp2_with fail
        have hst := whole_steps w4 v sa cap (CmdV.write_src (by omega) (srcAny_mono Hs.out Hb4.out))
        refine (whole_any _ _ _ _).mono ?_
        rintro e w5 ⟨rfl, hw5⟩
        rw [← hw5] at hst
        have hb5 : Below w4.heap.size w4 w5 := by rw [hw5]; exact (Below.refl _ _).alloc (Nat.le_refl _) _
        have Hb5 := Lib.hid (Hb4.out.trans (hb5.mono Hb4.out.size))
        have Hf5 := Lib.hid (Hf4.out.mono hb5)
        have Hst := Lib.hid hst
        clear hst hw5 hb5
        go_wp2_with fail
        refine (decode_whole w5 size aI aN aL w4.heap.size v _ hsz ((HE.out.below Hb5.out).mono Hb5.out.size) Hst.out (by omega)).mono ?_
        rintro e w6 ⟨g6, c6, rfl, hans, hb6⟩
        have hrd := read_whole hans (by omega)
        rw [← Hr.out] at hrd
        have Hrd6 := Lib.hid hrd
        have Hb6 := Lib.hid (Hb5.out.trans (hb6.mono Hb5.out.size))
        have Hf6 := Lib.hid (Hf5.out.mono hb6)
        clear hans hrd hb6
        go_wp2_with fail
        refine Hrd6.out.mono ?_
        rintro e w7 ⟨a7, c7, rfl, hown7, hb7⟩
        rw [← Hcd.out, ← Hci.out]
        have Hg7 := Lib.hid (FSl.of_own hown7)
        have Hb7 := Lib.hid (Hb6.out.trans (hb7.mono Hb6.out.size))
        have Hf7 := Lib.hid (Hf6.out.mono hb7)
        clear hown7 hb7
        go_wp2_with fail
        have ho8 := own_new (w := w7) #[.int .u8 130] 5 1 1 rfl (by decide)
        have hb8 : Below w7.heap.size w7 (w7.alloc (.cells #[.int .u8 130] 5)) := (Below.refl _ _).alloc (Nat.le_refl _) _
        generalize w7.alloc (.cells #[.int .u8 130] 5) = w8 at ho8 hb8 ⊢
        have hst := whole_steps w8 [130] (some ⟨w7.heap.size, 0, none⟩) 1 (CmdV.write_own (v := [130]) (by decide) ho8)
        refine (whole_any _ _ _ _).mono ?_
        rintro e w9 ⟨rfl, hw9⟩
        have hb9 : Below w8.heap.size w8 w9 := by rw [hw9]; exact (Below.refl _ _).alloc (Nat.le_refl _) _
        have hst9 : StepsMem w9 w8.heap.size 0 (wholeCmds [130]) [.slice (some ⟨w7.heap.size, 0, none⟩) 1 1, .slice none 0 0] := by rw [hw9]; exact hst
        have hb79 := hb8.trans (hb9.mono hb8.size)
        have Hb9 := Lib.hid (Hb7.out.trans (hb79.mono Hb7.out.size))
        have Hf9 := Lib.hid (Hf7.out.mono hb79)
        have Hg9 := Lib.hid (Hg7.out.mono hb79)
        have Hst9 := Lib.hid hst9
        clear hst hst9 hw9 hb9 hb79 hb8 ho8
        go_wp2_with fail
        refine (decode_whole w9 size aI aN aL w8.heap.size [130] _ hsz ((HE.out.below Hb9.out).mono Hb9.out.size) Hst9.out (by decide)).mono ?_
        rintro e w10 ⟨g10, c10, rfl, hans, hb10⟩
        have hrd := read_whole hans (by decide)
        rw [one_rd] at hrd
        have Hrd10 := Lib.hid hrd
        have Hb10 := Lib.hid (Hb9.out.trans (hb10.mono Hb9.out.size))
        have Hf10 := Lib.hid (Hf9.out.mono hb10)
        have Hg10 := Lib.hid (Hg9.out.mono hb10)
        clear hans hrd hb10
        go_wp2_with fail
        refine Hrd10.out.mono ?_
        rintro e w11 ⟨a11, c11, rfl, -, hb11⟩
        have Hb11 := Lib.hid (Hb10.out.trans (hb11.mono Hb10.out.size))
        have Hf11 := Lib.hid (Hf10.out.mono hb11)
        have Hg11 := Lib.hid (Hg10.out.mono hb11)
        clear hb11
        simp only [List.length_singleton, HD.code, HD.idx]
        have hrl : r.1.length ≤ 2 ^ 62 := by
          rw [Hr.out]
          have h1 := rd_len (HD.drun (st0 size) (wholeCmds v)) []
          have h2 := drun_sum0 size (wholeCmds v) (by show v.length + (0 + 0) ≤ _; omega)
          simp at h1; omega
        go_wp2_with fail
        refine (equal_any r.1 r.1 _ _ _ Hf11.out Hg11.out hrl).mono ?_
        rintro e w12 ⟨rfl, hb12⟩
        have he : decide (r.1 = r.1) = true := decide_eq_true rfl
        rw [he]
        have Hb12 := Lib.hid (Hb11.out.trans (hb12.mono Hb11.out.size))
        clear hb12 he
        go_wp2_with fail
        go_ret
        exact ⟨by simp, Hb12.out⟩

theorem walk (n : Int) (sa : Option Addr) (cap : Nat) (v : HD.Bs) (sc : Option Addr) (cc : Nat) (zs : List Int) (W : World) (hs : SrcAny sa cap v W) (hc : v.length ≤ maxLen ∧ v.length ≤ cap) (hz : IntsAny sc cc zs W) (aI aN aL : Addr) (hE : Env W.heap.size W aI aN aL) :
    Calls Tryd.prog 3 #[.int .i64 n, .slice sa v.length cap, .slice sc zs.length cc] W fun e W' => e = .returned (.bool true) ∧ Below W.heap.size W W' := by
  by_cases h1 : 2147483647 < v.length
  · have d1 : decide ((2147483647 : Int) < (v.length : Int)) = true := by simp; omega
    clear hE hs hz
    go_enter Tryd.func3, Tryd.ntmps3
    go_wp2_with fail
    go_ret
    exact ⟨rfl, Below.refl _ _⟩
  · have d1 : decide ((2147483647 : Int) < (v.length : Int)) = false := by simp; omega
    by_cases h2 : 2147483647 < zs.length
    · have d2 : decide ((2147483647 : Int) < (zs.length : Int)) = true := by simp; omega
      clear hE hs hz
      go_enter Tryd.func3, Tryd.ntmps3
      go_wp2_with fail
      go_ret
      exact ⟨rfl, Below.refl _ _⟩
    · have d2 : decide ((2147483647 : Int) < (zs.length : Int)) = false := by simp; omega
      by_cases h3 : 0 ≤ n ∧ n ≤ 2147483648
      · have d3 := decide_eq_true h3
        by_cases h4 : 1048576 < v.length
        · have d4 : decide ((1048576 : Int) < (v.length : Int)) = true := by simp; omega
          clear h3
          clear hE hs hz
          go_enter Tryd.func3, Tryd.ntmps3
          go_wp2_with fail
          refine (isSize_any _ _).mono ?_
          rintro e w1 ⟨rfl, rfl⟩
          rw [d3]
          go_wp2_with fail
          go_ret
          exact ⟨rfl, Below.refl _ _⟩
        · have d4 : decide ((1048576 : Int) < (v.length : Int)) = false := by simp; omega
          by_cases h5 : 1048576 < zs.length
          · have d5 : decide ((1048576 : Int) < (zs.length : Int)) = true := by simp; omega
            clear h3
            clear hE hs hz
            go_enter Tryd.func3, Tryd.ntmps3
            go_wp2_with fail
            refine (isSize_any _ _).mono ?_
            rintro e w1 ⟨rfl, rfl⟩
            rw [d3]
            go_wp2_with fail
            go_ret
            exact ⟨rfl, Below.refl _ _⟩
          · obtain ⟨m, rfl⟩ := Int.eq_ofNat_of_zero_le h3.1
            exact main m sa cap v sc cc zs W hs hz aI aN aL hE (by omega) (by omega) hc.2 (by omega)
      · have d3 := decide_eq_false h3
        clear h3
        clear hE hs hz
        go_enter Tryd.func3, Tryd.ntmps3
        go_wp2_with fail
        refine (isSize_any _ _).mono ?_
        rintro e w1 ⟨rfl, rfl⟩
        rw [d3]
        go_wp2_with fail
        go_ret
        exact ⟨rfl, Below.refl _ _⟩
theorem tables {W : World} (h : laidMetH Tryd.prog Rows.fnDecodeCutsRow.laid W) : ∃ aI aN aL, Env W.heap.size W aI aN aL := by
  rw [show Rows.fnDecodeCutsRow.laid = envList by unfold envList; rw [← laidCode, ← laidLen]; rfl] at h
  exact env_of h

theorem own : ownKnob Tryd.prog.godebug = none := by kernel_rfl
theorem laidOut : laidOutB Tryd.prog = true := by kernel_rfl
/-- A world for the witness: the settled one, the variables holding what the program's own initialisers lay. -/
noncomputable def laidWorld (os : Os) : World :=
  let w0 := World.holding Tryd.prog os ⟨#[.cells #[.string ⟨#[98, 121, 116, 101, 115, 46, 66, 117, 102, 102, 101, 114, 58, 32, 116, 111, 111, 32, 108, 97, 114, 103, 101]⟩] 123, .cells #[.string ⟨#[104, 112, 97, 99, 107, 58, 32, 115, 116, 114, 105, 110, 103, 32, 116, 111, 111, 32, 108, 111, 110, 103]⟩] 123, .cells #[.string ⟨#[110, 101, 101, 100, 32, 109, 111, 114, 101, 32, 100, 97, 116, 97]⟩] 123, .cells #[.string ⟨#[104, 112, 97, 99, 107, 58, 32, 105, 110, 118, 97, 108, 105, 100, 32, 72, 117, 102, 102, 109, 97, 110, 45, 101, 110, 99, 111, 100, 101, 100, 32, 100, 97, 116, 97]⟩] 123], #[], []⟩
  { w0 with heap := ((((((w0.heap).modify 5 (laidTab #[.iface 121 (.pointer (some ⟨(World.settled Tryd.prog os).heap.size + 0, 0, none⟩))])).modify 1 (laidTab #[.iface 121 (.pointer (some ⟨(World.settled Tryd.prog os).heap.size + 1, 0, none⟩))])).modify 2 (laidTab #[.iface 121 (.pointer (some ⟨(World.settled Tryd.prog os).heap.size + 2, 0, none⟩))])).modify 0 (laidTab #[.iface 121 (.pointer (some ⟨(World.settled Tryd.prog os).heap.size + 3, 0, none⟩))])).modify 3 (laidTab (tabVals Rows.laid_loop_example_pub_g03022_pub_hpack_huffmanCodes))).modify 4 (laidTab (tabVals Rows.laid_loop_example_pub_g03022_pub_hpack_huffmanCodeLen)) }
theorem laid_met (os : Os) (args : Array Value) : laidMetH Tryd.prog Rows.fnDecodeCutsRow.laid ((laidWorld os).forCall (fun _ _ => 0) ⟨#[], args, []⟩).memory :=
  laidMetH_of_parts3 (fuel := 8) (laidMet_of_run3 8 (by kernel_rfl) (by kernel_rfl) (by kernel_rfl)) (by kernel_rfl) (by kernel_rfl)
theorem reads (os : Os) {H : Type} (enc : TypeId × Value → H) : (DataW.whole enc Tryd.prog ((laidWorld os).forCall (fun _ _ => 0) ⟨#[], #[.int .i64 0, .slice none 0 0, .slice none 0 0], []⟩).memory Tryd.f3.params.toList Rows.fnDecodeCutsSpec.vars false (#[.int .i64 0, .slice none 0 0, .slice none 0 0] : Array Value).toList 8).isSome = true := by kernel_rfl

set_option maxRecDepth 100000 in
theorem lifted (os : Os) (started : os.Started) (H : Type) (enc : TypeId × Value → H) (F : Stop.Interp) :
    ReturnsInHanded {} Tryd.checked os 3 .any ((OpenSpec.ofChange Rows.fnDecodeCutsSpec).preRow enc Tryd.prog Tryd.f3 Rows.fnDecodeCutsRow.domain false Rows.fnDecodeCutsRow.laid) (((OpenSpec.ofChange Rows.fnDecodeCutsSpec).at F).post enc Tryd.prog Tryd.f3 false true false false) := by
  obtain ⟨x, hx⟩ := Option.isSome_iff_exists.1 (reads os enc)
  refine returnsInHanded_of_row (C := Tryd.checked) (s := OpenSpec.ofChange Rows.fnDecodeCutsSpec) own started (by kernel_rfl) Tryd.func3
    (witness_row_atRef (enc := enc) (C := Tryd.checked) false (laidWorld os) #[.int .i64 0, .slice none 0 0, .slice none 0 0] rfl (by kernel_rfl) (by kernel_rfl) (by kernel_rfl)
      (OpenSpec.preRow_of_cond 8 hx rfl (fun k hk => by cases hk) (by kernel_rfl) (laid_met os _))) ?_
  intro W base args ds gs before hval hW _ _ _ hL _ _
  have hW' := hW
  obtain ⟨p, q, hA0, hV, rfl, _, _⟩ := hW
  have hA : DataW.TrodAll enc Tryd.prog W 0 (fun _ => true) true Tryd.f3.params.toList args.toList ds p := hA0
  rw [Tryd.params3] at hA hval
  obtain ⟨v0, vs0, d0, ds0, p0, q0, hargs, rfl, rfl, h0, r0⟩ := trodAll_cons hA
  obtain ⟨v1, vs1, d1, ds1, p1, q1, rfl, rfl, rfl, h1, r1⟩ := trodAll_cons r0
  obtain ⟨v2, vs2, d2, ds2, p2, q2, rfl, rfl, rfl, h2, r2⟩ := trodAll_cons r1
  obtain ⟨rfl, rfl, rfl⟩ := trodAll_nil r2
  obtain rfl : args = #[v0, v1, v2] := by cases args; simp_all
  obtain ⟨g0, g1, g2, g3, g4, rfl⟩ := list5 (trodVars_length _ _ _ hV)
  obtain ⟨n, rfl, rfl, rfl, hs0⟩ := open_int Tryd.underlying3 (hval 0 3 v0 rfl rfl) h0
  obtain ⟨sa1, cap1, b, rfl, hs1, hm1⟩ := open_bytesC (hval 1 22 v1 rfl rfl) h1
  obtain ⟨sa2, cap2, z, rfl, hs2, hm2⟩ := open_intsI (hval 2 23 v2 rfl rfl) h2
  have ht := tables hL
  refine (walk n sa1 cap1 b sa2 cap2 z W hs1 hm1 hs2 ht.choose ht.choose_spec.choose ht.choose_spec.choose_spec.choose ht.choose_spec.choose_spec.choose_spec).mono fun e W' ⟨he, hb⟩ => ?_
  subst he
  exact ⟨_, rfl, post_law laidOut (by rw [Tryd.params3]; intro t ht; simp at ht; rcases ht with rfl | rfl | rfl <;> exact ⟨by kernel_rfl, of_decide_eq_true (by kernel_rfl)⟩) rfl Tryd.underlying4 (by kernel_rfl) rfl hW' hb⟩

theorem said : Rows.FnDecodeCutsSaid :=
  OpenClaim.holds_of_cond 3 Tryd.f3 rfl rfl rfl rfl rfl rfl rfl ⟨rfl, rfl, rfl, rfl, rfl⟩ rfl rfl rfl rfl rfl (by kernel_rfl) Tryd.func3 (by kernel_rfl)
    (of_decide_eq_true (by kernel_rfl)) (by unfold Func.isWrapper; first | (rw [if_pos (by decide +kernel)]; kernel_rfl) | (rw [if_neg (by decide +kernel)]; exact ⟨rfl, rfl⟩))
    (fun os started H enc _ F => by rw [OpenClaim.pre_eq_preRow]; exact lifted os started H enc F)

theorem plain (f : FuncId) (fn : Func) (hf : Tryd.pinned.checked.prog.funcNamed "loop.example/pub-g03022/laws.FnDecodeCuts" = some f) (hfn : Tryd.pinned.checked.prog.funcs[f]? = some fn) :
    true = Tryd.pinned.checked.prog.looks [] ∧ ∀ (j : Nat) t, fn.params[j]? = some t → Tryd.pinned.checked.prog.wantsStandIn t = false := by
  obtain rfl : f = 3 := Option.some.inj ((show Tryd.prog.funcNamed "loop.example/pub-g03022/laws.FnDecodeCuts" = some 3 by kernel_rfl).symm.trans hf) |>.symm
  obtain rfl : fn = Tryd.f3 := (Option.some.inj (Tryd.func3.symm.trans hfn)).symm
  refine ⟨by kernel_rfl, fun j t ht => ?_⟩
  have hall : ∀ t ∈ Tryd.f3.params.toList, Tryd.prog.wantsStandIn t = false := by
    have : (Tryd.f3.params.toList.all fun t => !Tryd.prog.wantsStandIn t) = true := by kernel_rfl
    intro t ht
    have := List.all_eq_true.1 this t ht
    simpa using this
  exact hall t (by simpa using Array.mem_of_getElem? ht)

/-- THE CARD. -/
theorem card : Rows.FnDecodeCutsCardSaid :=
  Claim7.holds_tied_plain_at .later [] _ _ _ _ said (fun _ h => by cases h) (by kernel_rfl) (fun _ h => by cases h) fnDecodeCuts_row_tie rfl ⟨rfl, rfl⟩ (by kernel_rfl) rfl plain (by kernel_rfl)
#print axioms card
end Go.Proofs.YtlkpeeoippbdoaaDoor.FnDecodeCuts
