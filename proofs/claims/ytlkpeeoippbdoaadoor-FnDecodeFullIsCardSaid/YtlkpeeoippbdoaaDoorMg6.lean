/-
  Texts of this seat, one behind the other: Dec, SaveBuf, Sets, MkMap, Init, Code, HStatic, HD3, Repr, Live, Write. What each one shows stands at its head. No condition.
-/
import Derived.Test.YtlkpeeoippbdoaaDoorMg5
import Derived.BigGuard
import Derived.Shelf.Bytes.WriteAt
import Derived.Stop.Asserts
import Derived.LaidEql
/-
  A decoder in memory.
-/
namespace Go.Proofs.YtlkpeeoippbdoaaDoor
open Go.ChangeShapes Go.WideShapes Go.ChangeAt Go.RowKit

/-- A decoder, told no longest text, in block d. -/
structure DecMem (B : Nat) (w : World) (d : Nat) (f : Nat → Value) (s : HD.St) (cnt : Nat) (ev : Value) (m1 m2 : Nat) (l1 : List (HD.Bs × Nat)) (l2 : List ((HD.Bs × HD.Bs) × Nat)) : Prop where
  tab : TabMem B w d 16 f s.ents cnt ev m1 m2 l1 l2
  sized : Sized f s.ents s.max
  allowed : f 7 = .int .u32 (s.allowed : Nat)
  on : f 9 = .bool s.on
  most : f 10 = .int .i64 0
  first : f 15 = .bool s.first
/-- Numbers that stay small. -/
structure Small (s : HD.St) (cnt : Nat) : Prop where
  cnt : cnt + s.ents.length + 1 < 2 ^ 62
  len : s.ents.length ≤ 2 ^ 40
  max : s.max < 2 ^ 32
  allowed : s.allowed < 2 ^ 32
  size : HD.tsize s.ents < 2 ^ 32
/-- Block g holds bytes. -/
def IsU8 (w : World) (g : Nat) : Prop := ∃ cs fz, w.heap[g]? = some (.cells cs 5 fz)
theorem not_own_u8 {B : Nat} {w : World} {b n : Nat} {f : Nat → Value} {ents : List (HD.Bs × HD.Bs)} {cnt : Nat} {ev : Value} {m1 m2 : Nat} {l1 : List (HD.Bs × Nat)} {l2 : List ((HD.Bs × HD.Bs) × Nat)} {g : Nat}
    (h : TabMem B w b n f ents cnt ev m1 m2 l1 l2) (hg : IsU8 w g) : ¬ tabOwn b ev m1 m2 g := by
  obtain ⟨cs, fz, hg⟩ := hg
  rintro (rfl | ho | rfl | rfl)
  · obtain ⟨cs', t, hb, -, -, ht⟩ := h.row
    rw [hg] at hb; injection hb with hb; injection hb with _ hb _; exact ht hb.symm
  · obtain ⟨c, fz', hk⟩ := Lib.ownsRow_kind h.own g ho
    rw [hg] at hk; injection hk with hk; injection hk with _ hk _; exact absurd hk (by decide)
  · obtain ⟨_, es, c, hb, -⟩ := h.map1
    rw [hg] at hb; injection hb with hb; cases hb
  · obtain ⟨_, es, c, hb, -⟩ := h.map2
    rw [hg] at hb; injection hb with hb; cases hb
def ErrV (n : Nat) (w' : World) (aI : Addr) : HD.Er → Value → Prop
  | .huff, v => v = .iface 121 (.pointer (some aI))
  | .coding, v => ∃ a : Addr, v = codingErr a ∧ Fresh n w' a
  | .index i, v => v = .iface 97 (.agg #[.iface 99 (.int .i64 (IntKind.i64.wrap (i : Nat)))])

/-- How a representation without a field ends. -/
def UEnds (B : Nat) (w : World) (d g : Nat) (f : Nat → Value) (s : HD.St) (cnt : Nat) (ev : Value) (m1 m2 : Nat) (aI aN : Addr) : HD.P1 → Ending → World → Prop
  | .more, e, w' => e = .returned (.iface 121 (.pointer (some aN))) ∧ Below w.heap.size w w'
  | .bad er, e, w' => (∃ x, e = .returned x ∧ ErrV w.heap.size w' aI er x) ∧ Below w.heap.size w w'
  | .ok ents max _ rest, e, w' => e = .returned .nilIface ∧ ∃ (q : Nat) (ev' : Value) (f' : Nat → Value) (o' cap' : Nat) (l1' : List (HD.Bs × Nat)) (l2' : List ((HD.Bs × HD.Bs) × Nat)),
      q ≤ s.ents.length ∧ ents.length + q = s.ents.length ∧ DecMem B w' d f' { s with ents := ents, max := max } (cnt + q) ev' m1 m2 l1' l2' ∧ ev'.ownBlock = ev.ownBlock ∧ (∀ i, 7 ≤ i → i ≠ 11 → f' i = f i) ∧
      f' 11 = .slice (some ⟨g, o', none⟩) rest.length cap' ∧ Buf w' g o' cap' rest ∧ Upd (tabOwn d ev m1 m2) w w'

set_option maxHeartbeats 4000000 in
set_option maxRecDepth 100000 in
theorem pUpd_any (B : Nat) (w : World) (d : Nat) (f : Nat → Value) (s : HD.St) (cnt : Nat) (ev : Value) (m1 m2 : Nat) (l1 : List (HD.Bs × Nat)) (l2 : List ((HD.Bs × HD.Bs) × Nat)) (g o cap : Nat) (v : HD.Bs) (aI aN : Addr)
    (hM : DecMem B w d f s cnt ev m1 m2 l1 l2) (hsm : Small s cnt) (hb : Buf w g o cap v) (hg : IsU8 w g) (h11 : f 11 = .slice (some ⟨g, o, none⟩) v.length cap)
    (he : w.cell? ⟨2, 0, none⟩ = some (.iface 121 (.pointer (some aN)))) :
    Calls Tryd.prog 58 #[.pointer (some ⟨d, 0, none⟩)] w fun e w' => UEnds B w d g f s cnt ev m1 m2 aI aN (HD.pUpd s v) e w' := by
  have HM := Lib.hid hM
  have HB := Lib.hid hb
  have Hg := Lib.hid hg
  have H11 := Lib.hid h11
  have Hnot := Lib.hid (not_own_u8 hM.tab hg)
  have Hsm := Lib.hid hsm
  have He := Lib.hid he
  have c5 := hM.tab.row.cell' (i := 5) (by decide) hM.sized.size
  have c7 := hM.tab.row.cell' (i := 7) (by decide) hM.allowed
  have c11 := hM.tab.row.cell' (i := 11) (by decide) h11
  have c15 := hM.tab.row.cell' (i := 15) (by decide) hM.first
  obtain ⟨fst, hfst⟩ : ∃ b, b = s.first := ⟨_, rfl⟩
  obtain ⟨ts, hts⟩ : ∃ b, b = HD.tsize s.ents := ⟨_, rfl⟩
  rw [← hfst] at c15
  rw [← hts] at c5
  have Hfst := Lib.hid hfst
  have Hts := Lib.hid hts
  have hG := World.block_lt_of_cell? w _ he
  have hP : HD.pUpd s v = if fst = false ∧ 0 < ts then .bad .coding else match HD.rvi 5 v with | .more => .more | .over => .bad .coding | .ok n rest => if s.allowed < n then .bad .coding else .ok (HD.evict n s.ents) n none rest := by rw [hfst, hts]; rfl
  have HP := Lib.hid hP
  clear hM hb hg h11 hsm hfst hts he hP
  by_cases hlate : fst = false ∧ 0 < ts
  · obtain ⟨rfl, h0⟩ := hlate
    have h0I : (0 : Int) < (ts : Int) := by omega
    rw [if_pos ⟨rfl, h0⟩] at HP
    go_enter Tryd.func58, Tryd.ntmps58
    go_wp2_with fail
    refine (errNew_any _ _).mono ?_
    rintro e w1 ⟨⟨a, rfl, ha⟩, hb1⟩
    have Hb1 := Lib.hid hb1
    clear hb1
    go_wp2_with fail
    go_ret
    rw [HP.out]
    exact ⟨⟨_, rfl, a, rfl, ha⟩, Hb1.out⟩
  · rw [if_neg hlate] at HP
    have hgo : fst = true ∨ (fst = false ∧ ts = 0) := by
      cases fst with
      | true => exact Or.inl rfl
      | false => exact Or.inr ⟨rfl, by simp at hlate; exact hlate⟩
    clear hlate
    rcases hgo with rfl | ⟨rfl, rfl⟩
    all_goals
      go_enter Tryd.func58, Tryd.ntmps58
      go_wp2_with fail
      refine (varInt_any 5 (by decide) _ g o cap v _ HB.out He.out).mono ?_
      rintro e w1 ⟨hv, hb1⟩
      have d7 := (hb1.cell (p := ⟨d, 7, none⟩) (HM.out.tab.row.lt)).trans c7
      have HT1 := Lib.hid (HM.out.tab.below hb1)
      have Hb1 := Lib.hid hb1
      clear hb1 c5 c7 c11 c15
      cases hr : HD.rvi 5 v with
      | more =>
        rw [hr] at hv HP
        obtain ⟨s0, rfl⟩ := hv
        clear hr
        go_wp2_with fail
        go_ret
        rw [HP.out]
        exact ⟨rfl, Hb1.out⟩
      | over =>
        rw [hr] at hv HP
        obtain ⟨s0, a, rfl, ha⟩ := hv
        clear hr
        unfold codingErr
        go_wp2_with fail
        go_ret
        rw [HP.out]
        exact ⟨⟨_, rfl, a, rfl, ha⟩, Hb1.out⟩
      | ok n rest =>
        have hlt := HD.rvi_lt (by decide) hr
        rw [hr] at hv HP
        obtain ⟨o1, cap1, rfl, hbr⟩ := hv
        have HBr := Lib.hid hbr
        have hal := Hsm.out.allowed
        have HP2 : Hid (HD.pUpd s v = if s.allowed < n then .bad .coding else .ok (HD.evict n s.ents) n none rest) := HP.out
        clear hr hbr HP
        by_cases hna : s.allowed < n
        · have hnaI : (s.allowed : Int) < (n : Int) := by omega
          rw [if_pos hna] at HP2
          go_wp2_with fail
          refine (errNew_any _ _).mono ?_
          rintro e w2 ⟨⟨a, rfl, ha⟩, hb2⟩
          have Hb2 := Lib.hid (Hb1.out.trans (hb2.mono Hb1.out.size))
          clear hb2
          go_wp2_with fail
          go_ret
          rw [HP2.out]
          exact ⟨⟨_, rfl, a, rfl, ha.mono Hb1.out.size⟩, Hb2.out⟩
        · have hnaI : ¬ (s.allowed : Int) < (n : Int) := by omega
          have hnl : (n : Int) < 4294967296 := by omega
          have hnl2 : n < 2 ^ 32 := by omega
          rw [if_neg hna] at HP2
          go_wp2_with fail
          refine (setMax_any B _ d 16 f s.ents cnt s.max n ev m1 m2 l1 l2 HT1.out HM.out.sized (by have := Hsm.out.cnt; omega) hnl2 Hsm.out.size).mono ?_
          rintro e w2 ⟨rfl, q, ev', f', hq, hev, heb, hf, hs2, ht2, hu2⟩
          have e11 := ht2.row.cell' (i := 11) (v := .slice (some ⟨g, o, none⟩) v.length cap) (by decide) (by rw [hf 11 (by decide), H11.out])
          have fz := fun i => ht2.row.unfrozen i none
          have H1 := Lib.hid hev
          have H2 := Lib.hid heb
          have H3 := Lib.hid hf
          have H4 := Lib.hid hs2
          have H5 := Lib.hid ht2
          have H6 := Lib.hid hu2
          clear hev heb hf hs2 ht2 hu2
          go_wp2_with fail
          go_ret
          rw [HP2.out]
          have hrow := H5.out.row.set 11 (.slice (some ⟨g, o1, none⟩) rest.length cap1)
          have hT6 := H5.out.write (cnt' := cnt + q) (f' := putF f' 11 (.slice (some ⟨g, o1, none⟩) rest.length cap1)) hrow (fun i _ hi => other_set hi) (by simp [putF, H5.out.c0]) (by simp [putF, H5.out.c1]) (by simp [putF, H5.out.c2]) (by simp [putF, H5.out.c3]) (by simp [putF, H5.out.c4])
          have hlen : (HD.evict n s.ents).length + q = s.ents.length := by rw [H1.out, List.length_drop]; omega
          have hup : Upd (tabOwn d ev m1 m2) w w2 := Upd.step (Upd.of_below Hb1.out) H6.out
          refine ⟨rfl, q, ev', _, o1, cap1, _, _, hq, hlen, ⟨hT6, ⟨by simp [putF, H4.out.size], by simp [putF, H4.out.max]⟩, by simp [putF, H3.out, HM.out.allowed], by simp [putF, H3.out, HM.out.on], by simp [putF, H3.out, HM.out.most], by simp [putF, H3.out, HM.out.first]⟩, H2.out, fun i hi h11 => by simp only [putF]; rw [if_neg h11, H3.out i hi], by simp [putF], ?_, hup.setCell (Or.inl (Or.inl rfl)) _⟩
          obtain ⟨gc, gz, hgh⟩ := Hg.out
          exact HBr.out.kept fun _ => (other_set (fun e => Hnot.out (Or.inl e.symm))).trans (H6.out.block g (Nat.lt_of_lt_of_le (Lib.lt_of_heap hgh) Hb1.out.size) Hnot.out)
end Go.Proofs.YtlkpeeoippbdoaaDoor
/-
  The buffer that a decoder keeps, within its struct: its length, its bytes, that it is emptied, that it is written.
-/
namespace Go.Proofs.YtlkpeeoippbdoaaDoor
open Go.ChangeShapes Go.WideShapes Go.ChangeAt Go.RowKit
open Go.Shelf
def lays180_ren : Go.Shelf.Ren := ⟨fun | 180 => 42 | 251 => 54 | 252 => 55 | 181 => 41 | 184 => 44 | 290 => 60 | 324 => 69 | n => n, fun | 130 => 93 | 37 => 22 | 3 => 3 | 75 => 64 | 0 => 0 | 93 => 80 | 91 => 78 | 131 => 116 | 4 => 4 | 20 => 20 | 5 => 5 | 80 => 95 | 9 => 9 | n => n, fun | 14 => 5 | n => n⟩
theorem lays180 : Go.Proofs.LaysM.n180 Tryd.prog lays180_ren := {
  mixed := by kernel_rfl
  f180 := Tryd.func42.trans (congrArg some (by kernel_rfl))
  f181 := Tryd.func41.trans (congrArg some (by kernel_rfl))
  f184 := Tryd.func44.trans (congrArg some (by kernel_rfl))
  f251 := Tryd.func54.trans (congrArg some (by kernel_rfl))
  f252 := Tryd.func55.trans (congrArg some (by kernel_rfl))
  f290 := Tryd.func60.trans (congrArg some (by kernel_rfl))
  f324 := Tryd.func69.trans (congrArg some (by kernel_rfl))
  t0 := Tryd.underlying0
  a0 := Tryd.isAgg0
  z0 := Tryd.sizeOf0
  v0 := Tryd.zeroValue0
  t3 := Tryd.underlying3
  a3 := Tryd.isAgg3
  z3 := Tryd.sizeOf3
  v3 := Tryd.zeroValue3
  t4 := Tryd.underlying4
  a4 := Tryd.isAgg4
  z4 := Tryd.sizeOf4
  v4 := Tryd.zeroValue4
  t20 := Tryd.underlying20
  a20 := Tryd.isAgg20
  z20 := Tryd.sizeOf20
  v20 := Tryd.zeroValue20
  t37 := Tryd.underlying22
  a37 := Tryd.isAgg22
  z37 := Tryd.sizeOf22
  v37 := Tryd.zeroValue22
  t75 := Tryd.underlying64
  a75 := Tryd.isAgg64
  z75 := Tryd.sizeOf64
  v75 := Tryd.zeroValue64
  t91 := Tryd.underlying78
  a91 := Tryd.isAgg78
  z91 := Tryd.sizeOf78
  v91 := Tryd.zeroValue78
  t93 := Tryd.underlying80
  a93 := Tryd.isAgg80
  z93 := Tryd.sizeOf80
  v93 := Tryd.zeroValue80
  t130 := Tryd.underlying93
  a130 := Tryd.isAgg93
  z130 := Tryd.sizeOf93
  v130 := Tryd.zeroValue93
  t131 := Tryd.underlying116
  a131 := Tryd.isAgg116
  z131 := Tryd.sizeOf116
  v131 := Tryd.zeroValue116
  g14 := by kernel_rfl
  t5 := Tryd.underlying5
  a5 := Tryd.isAgg5
  z5 := Tryd.sizeOf5
  v5 := Tryd.zeroValue5
  t9 := Tryd.underlying9
  a9 := Tryd.isAgg9
  z9 := Tryd.sizeOf9
  v9 := Tryd.zeroValue9
  t80 := Tryd.underlying95
  a80 := Tryd.isAgg95
  z80 := Tryd.sizeOf95
  v80 := Tryd.zeroValue95
  i0 := by kernel_rfl
  i3 := by kernel_rfl
  i4 := by kernel_rfl
  i5 := by kernel_rfl
  i9 := by kernel_rfl
  i20 := by kernel_rfl
  i37 := by kernel_rfl
  i75 := by kernel_rfl
  i80 := by kernel_rfl
  i91 := by kernel_rfl
  i93 := by kernel_rfl
  i130 := by kernel_rfl
  i131 := by kernel_rfl
  m14 := by kernel_rfl }

theorem saveLen_any (d k c : Nat) (a : Option Addr) (w : World) (h12 : w.cell? ⟨d, 12, none⟩ = some (.slice a k c)) (h13 : w.cell? ⟨d, 13, none⟩ = some (.int .i64 0)) (hk : k ≤ maxLen) :
    Calls Tryd.prog 41 #[.pointer (some ⟨d, 12, none⟩)] w fun e w' => e = .returned (.int .i64 (k : Nat)) ∧ ∃ n, w' = w.drewN n := by
  unfold maxLen at hk
  go_enter Tryd.func41, Tryd.ntmps41
  go_wp2
  go_quiet (fail)
  go_wp2
  go_ret
  exact ⟨ret_int (by simp), _, rfl⟩

theorem saveBytes_any (d k c : Nat) (a : Option Addr) (w : World) (h12 : w.cell? ⟨d, 12, none⟩ = some (.slice a k c)) (h13 : w.cell? ⟨d, 13, none⟩ = some (.int .i64 0)) (_hk : k ≤ c) (_hc : c ≤ maxLen) :
    Calls Tryd.prog 43 #[.pointer (some ⟨d, 12, none⟩)] w fun e w' => e = .returned (.slice a k c) ∧ ∃ n, w' = w.drewN n := by
  unfold maxLen at _hc
  go_enter Tryd.func43, Tryd.ntmps43
  go_wp2
  go_quiet (fail)
  go_wp2
  go_ret
  exact ⟨rfl, _, rfl⟩

theorem saveReset_any (d k c : Nat) (a : Option Addr) (f : Nat → Value) (w : World) (hr : Row w d 16 f) (h12 : f 12 = .slice a k c) (h13 : f 13 = .int .i64 0) (lr : Int) (h14 : f 14 = .int .i8 lr) :
    Calls Tryd.prog 44 #[.pointer (some ⟨d, 12, none⟩)] w fun e w' => e = .returned (.tuple #[]) ∧ Row w' d 16 (putF (putF f 12 (.slice a 0 c)) 14 (.int .i8 0)) ∧ Upd (fun i => i = d) w w' := by
  have c12 := hr.cell' (i := 12) (by decide) h12
  have c13 := hr.cell' (i := 13) (by decide) h13
  have c14 := hr.cell' (i := 14) (by decide) h14
  have fz := fun i => hr.unfrozen i none
  have Hr := Lib.hid hr
  have H13 := Lib.hid h13
  clear hr h12 h13 h14
  go_enter Tryd.func44, Tryd.ntmps44
  go_wp2
  go_end0
  refine ⟨rfl, ?_, ?_⟩
  · exact (((Hr.out.set 12 (.slice a 0 c)).set 13 (.int .i64 0)).set 14 (.int .i8 0)).congr (fun i hi => by
      unfold putF
      have := H13.out
      by_cases e14 : i = 14
      · simp [e14]
      · by_cases e13 : i = 13
        · subst e13; simp [this]
        · by_cases e12 : i = 12
          · subst e12; simp
          · simp [e14, e13, e12])
  · have q : Upd (fun i => i = d) w (((w.setCell ⟨d, 12, none⟩ (.slice a 0 c)).setCell ⟨d, 13, none⟩ (.int .i64 0)).setCell ⟨d, 14, none⟩ (.int .i8 0)) :=
      (((Upd.refl (fun i => i = d) w).setCell (a := ⟨d, 12, none⟩) (Or.inl rfl) _).setCell (a := ⟨d, 13, none⟩) (Or.inl rfl) _).setCell (a := ⟨d, 14, none⟩) (Or.inl rfl) _
    exact q

/-- The bytes that a decoder keeps: cell 12 is a slice of its own. -/
structure Save (B : Nat) (w : World) (d : Nat) (f : Nat → Value) (cs : List UInt8) : Prop where
  own : w.ownsRow B 5 1 (f 12) cs.length (Lib.byteCells cs)
  ne : (f 12).ownBlock ≠ some d
  off : f 13 = .int .i64 0
  last : ∃ lr, f 14 = .int .i8 lr

theorem saveWrite_any (B d n c : Nat) (a : Addr) (f : Nat → Value) (xs cs : List UInt8) (w : World) (hr : Row w d 16 f) (hs : Save B w d f xs) (hB : B ≤ d) (hBw : B ≤ w.heap.size) (hn : cs.length = n) (ha : a.block ≠ d)
    (hsrc : ∀ j v, (Lib.byteCells cs)[j]? = some v → w.cell? (a.add j) = some v) (hlim : xs.length + n ≤ 140737488355328) :
    Calls Tryd.prog 42 #[.pointer (some ⟨d, 12, none⟩), .slice (some a) n c] w fun e w' => e = .returned (.tuple #[.int .i64 n, .nilIface]) ∧
      ∃ f', Row w' d 16 f' ∧ Save B w' d f' (xs ++ cs) ∧ (∀ i, i < 12 ∨ i = 15 → f' i = f i) ∧ Below B w w' ∧ Lib.OthersKept 5 (some d) w w' := by
  obtain ⟨own, ne, off, lr, last⟩ := hs
  obtain ⟨cells, t, hd, h16, hc, ht⟩ := hr
  have hlen : ∀ l : List UInt8, (Lib.byteCells l).length = l.length := fun l => by simp [Lib.byteCells]
  have hI : LibA.IsBuffer t (fun i => cells[i]?) 5 B d 12 (Lib.byteCells xs) w :=
    ⟨hB, f 12, lr, ⟨cells, hd, hc 12 (by decide), (hc 13 (by decide)).trans (by rw [off]), (hc 14 (by decide)).trans (by rw [last]), fun i _ => rfl⟩, by rw [hlen]; exact own, ne⟩
  have h1 : ∀ l : List UInt8, ∀ v ∈ Lib.byteCells l, v.oneCell' = true := fun l v hv => by
    simp only [Lib.byteCells, List.mem_map] at hv
    obtain ⟨x, -, rfl⟩ := hv
    rfl
  refine (Any.Buffer_Write_at lays180 t (fun i => cells[i]?) B d 12 (Lib.byteCells xs) (Lib.byteCells cs) a n c w hI hBw (h1 xs) (by rw [hlen]; exact hn) ha hsrc (h1 cs) (by rw [hlen]; exact hlim)).mono ?_
  rintro e w' ⟨rfl, ⟨-, v, lr', ⟨cells', hd', e12, e13, e14, hrest⟩, own', ne'⟩, hb, hk⟩
  have hsz : cells'.size = 16 := by
    have h15 : cells'[15]? = cells[15]? := hrest 15 (by omega)
    have h17 : cells'[16]? = cells[16]? := hrest 16 (by omega)
    rw [hc 15 (by decide)] at h15
    rw [Array.getElem?_eq_none (by omega : cells.size ≤ 16)] at h17
    have := (Array.getElem?_eq_some_iff.1 h15).1
    have := Array.getElem?_eq_none_iff.1 h17
    omega
  refine ⟨rfl, fun i => if i = 12 then v else if i = 13 then .int .i64 0 else if i = 14 then .int .i8 lr' else f i, ⟨cells', t, hd', hsz, fun i hi => ?_, ht⟩, ⟨?_, ne', rfl, lr', rfl⟩, fun i hi => ?_, hb, hk⟩
  · by_cases h12 : i = 12
    · subst h12; exact e12
    by_cases h13 : i = 13
    · subst h13; exact e13
    by_cases h14 : i = 14
    · subst h14; exact e14
    show _ = some (if i = 12 then v else if i = 13 then .int .i64 0 else if i = 14 then .int .i8 lr' else f i)
    rw [if_neg h12, if_neg h13, if_neg h14, hrest i (by omega)]
    exact hc i hi
  · have e : Lib.byteCells (xs ++ cs) = Lib.byteCells xs ++ Lib.byteCells cs := by simp [Lib.byteCells]
    rw [e, show (xs ++ cs).length = (Lib.byteCells xs ++ Lib.byteCells cs).length by simp [hlen]]
    exact own'
  · show (if i = 12 then v else if i = 13 then .int .i64 0 else if i = 14 then .int .i8 lr' else f i) = f i
    rw [if_neg (by omega), if_neg (by omega), if_neg (by omega)]
end Go.Proofs.YtlkpeeoippbdoaaDoor
/-
  The decoder's setters and Close, on the decoder's block.
-/
namespace Go.Proofs.YtlkpeeoippbdoaaDoor
open Go.ChangeShapes Go.WideShapes Go.ChangeAt Go.RowKit

theorem setOn_any (d : Nat) (f : Nat → Value) (v : Bool) (w : World) (hr : Row w d 16 f) (b9 : Bool) (h9 : f 9 = .bool b9) :
    Calls Tryd.prog 34 #[.pointer (some ⟨d, 0, none⟩), .bool v] w fun e w' => e = .returned (.tuple #[]) ∧ Row w' d 16 (putF f 9 (.bool v)) ∧ Upd (fun i => i = d) w w' := by
  have c9 := hr.cell' (i := 9) (by decide) h9
  have fz := fun i => hr.unfrozen i none
  have Hr := Lib.hid hr
  clear hr h9
  go_enter Tryd.func34, Tryd.ntmps34
  go_wp2
  go_end0
  refine ⟨rfl, Hr.out.set 9 _, ?_⟩
  have q : Upd (fun i => i = d) w (w.setCell ⟨d, 9, none⟩ (.bool v)) := (Upd.refl (fun i => i = d) w).setCell (a := ⟨d, 9, none⟩) (Or.inl rfl) _
  exact q

theorem setMaxStr_any (d : Nat) (f : Nat → Value) (v : Int) (w : World) (hr : Row w d 16 f) (b10 : Int) (h10 : f 10 = .int .i64 b10) :
    Calls Tryd.prog 33 #[.pointer (some ⟨d, 0, none⟩), .int .i64 v] w fun e w' => e = .returned (.tuple #[]) ∧ Row w' d 16 (putF f 10 (.int .i64 v)) ∧ Upd (fun i => i = d) w w' := by
  have c10 := hr.cell' (i := 10) (by decide) h10
  have fz := fun i => hr.unfrozen i none
  have Hr := Lib.hid hr
  clear hr h10
  go_enter Tryd.func33, Tryd.ntmps33
  go_wp2
  go_end0
  refine ⟨rfl, Hr.out.set 10 _, ?_⟩
  have q : Upd (fun i => i = d) w (w.setCell ⟨d, 10, none⟩ (.int .i64 v)) := (Upd.refl (fun i => i = d) w).setCell (a := ⟨d, 10, none⟩) (Or.inl rfl) _
  exact q

theorem setAllowed_any (d : Nat) (f : Nat → Value) (v : Int) (w : World) (hr : Row w d 16 f) (b7 : Int) (h7 : f 7 = .int .u32 b7) :
    Calls Tryd.prog 36 #[.pointer (some ⟨d, 0, none⟩), .int .u32 v] w fun e w' => e = .returned (.tuple #[]) ∧ Row w' d 16 (putF f 7 (.int .u32 v)) ∧ Upd (fun i => i = d) w w' := by
  have c7 := hr.cell' (i := 7) (by decide) h7
  have fz := fun i => hr.unfrozen i none
  have Hr := Lib.hid hr
  clear hr h7
  go_enter Tryd.func36, Tryd.ntmps36
  go_wp2
  go_end0
  refine ⟨rfl, Hr.out.set 7 _, ?_⟩
  have q : Upd (fun i => i = d) w (w.setCell ⟨d, 7, none⟩ (.int .u32 v)) := (Upd.refl (fun i => i = d) w).setCell (a := ⟨d, 7, none⟩) (Or.inl rfl) _
  exact q

theorem emitOn_any (d : Nat) (b9 : Bool) (w : World) (c9 : w.cell? ⟨d, 9, none⟩ = some (.bool b9)) :
    Calls Tryd.prog 37 #[.pointer (some ⟨d, 0, none⟩)] w fun e w' => e = .returned (.bool b9) ∧ w' = w := by
  go_enter Tryd.func37, Tryd.ntmps37
  go_wp2
  go_ret
  exact ⟨rfl, rfl⟩

theorem closeBad_any (d k c : Nat) (a : Option Addr) (f : Nat → Value) (w : World) (hr : Row w d 16 f) (h12 : f 12 = .slice a k c) (h13 : f 13 = .int .i64 0) (lr : Int) (h14 : f 14 = .int .i8 lr) (hk : k ≤ maxLen) (hk0 : 0 < k) :
    Calls Tryd.prog 30 #[.pointer (some ⟨d, 0, none⟩)] w fun e w' => (∃ x : Addr, e = .returned (codingErr x) ∧ Fresh w.heap.size w' x) ∧ Row w' d 16 (putF (putF f 12 (.slice a 0 c)) 14 (.int .i8 0)) ∧ Upd (fun i => i = d) w w' := by
  have c12 := hr.cell' (i := 12) (by decide) h12
  have c13 := hr.cell' (i := 13) (by decide) h13
  have Hr := Lib.hid hr
  have H12 := Lib.hid h12
  have H13 := Lib.hid h13
  have H14 := Lib.hid h14
  clear hr h12 h13 h14
  go_enter Tryd.func30, Tryd.ntmps30
  go_wp2_with fail
  refine (saveLen_any d k c a _ (by exact c12) (by exact c13) hk).mono ?_
  rintro e w1 ⟨rfl, n1, rfl⟩
  clear c12 c13
  have e0 : decide ((0 : Int) < ((k : Nat) : Int)) = true := by simp; omega
  go_wp2_with fail
  refine (saveReset_any d k c a f _ (by exact Hr.out) H12.out H13.out lr H14.out).mono ?_
  rintro e w2 ⟨rfl, hr2, hu2⟩
  have Hr2 := Lib.hid hr2
  have Hu2 := Lib.hid hu2
  clear hr2 hu2
  go_wp2_with fail
  refine (errNew_any _ _).mono ?_
  rintro e w3 ⟨⟨x, rfl, hx⟩, hb3⟩
  have Hx := Lib.hid hx
  have Hb3 := Lib.hid hb3
  clear hx hb3
  go_wp2_with fail
  go_ret
  have hsz : w.heap.size ≤ w2.heap.size := Hu2.out.size
  have hd : d < w2.heap.size := Hr2.out.lt
  exact ⟨⟨x, rfl, Hx.out.mono hsz⟩, Hr2.out.below Hb3.out hd, (((Upd.refl _ w).drewN n1).step Hu2.out).step (Upd.of_below Hb3.out)⟩

theorem closeOk_any (d c : Nat) (a : Option Addr) (f : Nat → Value) (w : World) (hr : Row w d 16 f) (h12 : f 12 = .slice a 0 c) (h13 : f 13 = .int .i64 0) (b15 : Bool) (h15 : f 15 = .bool b15) :
    Calls Tryd.prog 30 #[.pointer (some ⟨d, 0, none⟩)] w fun e w' => e = .returned .nilIface ∧ Row w' d 16 (putF f 15 (.bool true)) ∧ Upd (fun i => i = d) w w' := by
  have c12 := hr.cell' (i := 12) (by decide) h12
  have c13 := hr.cell' (i := 13) (by decide) h13
  have c15 := hr.cell' (i := 15) (by decide) h15
  have fz := fun i => hr.unfrozen i none
  have Hr := Lib.hid hr
  clear hr h12 h13 h15
  go_enter Tryd.func30, Tryd.ntmps30
  go_wp2_with fail
  refine (saveLen_any d 0 c a _ (by exact c12) (by exact c13) (by decide)).mono ?_
  rintro e w1 ⟨rfl, n1, rfl⟩
  clear c12 c13
  go_wp2_with fail
  go_ret
  refine ⟨rfl, Hr.out.set 15 _, ?_⟩
  have q : Upd (fun i => i = d) w ((w.drewN n1).setCell ⟨d, 15, none⟩ (.bool true)) := ((Upd.refl (fun i => i = d) w).drewN n1).setCell (a := ⟨d, 15, none⟩) (Or.inl rfl) _
  exact q
end Go.Proofs.YtlkpeeoippbdoaaDoor
/-
  A map is made.
-/
namespace Go.Proofs.YtlkpeeoippbdoaaDoor
open Go.ChangeShapes Go.WideShapes Go.ChangeAt Go.RowKit

theorem wpList_mkMap {P : Program} {ops : Array Oper} {rest : List Oper} {o : Oper} {a : Act} {w : World} {Q : Exit → Act → World → Prop} (hg : o.guard = none) (mt : TypeId) (ho : o.op = .makeMap mt none)
    (h : wpList P ops Q rest (a.put o.dst (.map (some w.heap.size))) (w.alloc (.map #[] 0))) : wpList P ops Q (o :: rest) a w := by
  refine wpList_plain hg fun K hK => ?_
  unfold Oper.wp
  simp only [execOp, ho, Option.map_none, Sem.run_bind, run_makeMap, Result.andThen_ok, Sem.run_pure]
  exact hK _ _ h
theorem mapMem_mk {K : Type} {enc : K → Value} (w : World) : MapMem enc (w.alloc (.map #[] 0)) w.heap.size ([] : List (K × Nat)) := ⟨by simp, #[], 0, heap_alloc_new w _, by simp⟩
end Go.Proofs.YtlkpeeoippbdoaaDoor
/-
  A new decoder.
-/
namespace Go.Proofs.YtlkpeeoippbdoaaDoor
open Go.ChangeShapes Go.WideShapes Go.ChangeAt Go.RowKit

theorem init_any (b n : Nat) (f : Nat → Value) (w : World) (hr : Row w b n f) (hn : 8 ≤ n) (h3 : f 3 = .map none) (h4 : f 4 = .map none) :
    Calls Tryd.prog 27 #[.pointer (some ⟨b, 0, none⟩)] w fun e w' => e = .returned (.tuple #[]) ∧ ∃ m1 m2, w.heap.size ≤ m1 ∧ w.heap.size ≤ m2 ∧ m1 ≠ m2 ∧ MapMem encS w' m1 [] ∧ MapMem encP w' m2 [] ∧
      Row w' b n (putF (putF f 3 (.map (some m1))) 4 (.map (some m2))) ∧ Upd (fun i => i = b) w w' := by
  have c3 := hr.cell' (i := 3) (by omega) h3
  have c4 := hr.cell' (i := 4) (by omega) h4
  have fz := fun i => hr.unfrozen i none
  have Hr := Lib.hid hr
  have H3 := Lib.hid h3
  have H4 := Lib.hid h4
  clear hr h3 h4 c3 c4 fz
  go_enter Tryd.func27, Tryd.ntmps27
  go_wp2
  simp only [run_makeMap, Result.andThen_ok, Oper.upon]
  have fz1 : (w.alloc (.map #[] 0)).frozen? ⟨b, 3, none⟩ = false := (Hr.out.alloc _).unfrozen 3 none
  have c31 : (w.alloc (.map #[] 0)).cell? ⟨b, 3, none⟩ = some (.map none) := (Hr.out.alloc _).cell' (i := 3) (by omega) H3.out
  go_wp2
  have hr1 : Row ((w.alloc (.map #[] 0)).setCell ⟨b, 3, none⟩ (.map (some w.heap.size))) b n (putF f 3 (.map (some w.heap.size))) := (Hr.out.alloc _).set 3 _
  have hu1 : Upd (fun i => i = b) w ((w.alloc (.map #[] 0)).setCell ⟨b, 3, none⟩ (.map (some w.heap.size))) := ((Upd.refl (fun i => i = b) w).alloc _).setCell (a := ⟨b, 3, none⟩) (Or.inl rfl) _
  have hm1 : MapMem encS ((w.alloc (.map #[] 0)).setCell ⟨b, 3, none⟩ (.map (some w.heap.size))) w.heap.size ([] : List (HD.Bs × Nat)) := (mapMem_mk w).of_heap (Below.heap_setCell _ _ _ _ (Nat.ne_of_gt Hr.out.lt))
  have hs1 : ((w.alloc (.map #[] 0)).setCell ⟨b, 3, none⟩ (.map (some w.heap.size))).heap.size = w.heap.size + 1 := by simp
  generalize hw1 : (w.alloc (.map #[] 0)).setCell ⟨b, 3, none⟩ (.map (some w.heap.size)) = w1 at hr1 hu1 hm1 hs1 ⊢
  clear hw1 fz1 c31
  have Hr1 := Lib.hid hr1
  have Hu1 := Lib.hid hu1
  have Hm1 := Lib.hid hm1
  have Hs1 := Lib.hid hs1
  clear hr1 hu1 hm1 hs1
  simp only [run_makeMap, Result.andThen_ok, Oper.upon]
  have fz1 : (w1.alloc (.map #[] 0)).frozen? ⟨b, 4, none⟩ = false := (Hr1.out.alloc _).unfrozen 4 none
  have c41 : (w1.alloc (.map #[] 0)).cell? ⟨b, 4, none⟩ = some (.map none) := (Hr1.out.alloc _).cell' (i := 4) (by omega) (by simp [putF, H4.out])
  go_wp2
  go_end0
  have hb : b < w.heap.size := Hr.out.lt
  have hb1 : b ≠ w1.heap.size := by have := Hs1.out; omega
  refine ⟨rfl, w.heap.size, w1.heap.size, Nat.le_refl _, by have := Hs1.out; omega, by have := Hs1.out; omega, ?_, ?_, ?_, ?_⟩
  · exact (Hm1.out.of_heap (Below.heap_alloc _ _ _ (by have := Hs1.out; omega))).of_heap (Below.heap_setCell _ _ _ _ (Nat.ne_of_gt hb))
  · exact (mapMem_mk w1).of_heap (Below.heap_setCell _ _ _ _ (Ne.symm hb1))
  · exact (Hr1.out.alloc _).set 4 _
  · exact (Hu1.out.alloc _).setCell (a := ⟨b, 4, none⟩) (Or.inl rfl) _

def dec0 (em : Value) : Array Value := #[.bool false, .slice none 0 0, .int .u64 0, .map none, .map none, .int .u32 0, .int .u32 0, .int .u32 0, em, .bool true, .int .i64 0, .slice none 0 0, .slice none 0 0, .int .i64 0, .int .i8 0, .bool true]

set_option maxHeartbeats 4000000 in
theorem newDecoder_any (B size : Nat) (F : Fn) (cv : Value) (w : World) (hB : B ≤ w.heap.size) (hs : size < 2 ^ 32) :
    Calls Tryd.prog 20 #[.int .u32 (size : Nat), .func F #[] #[cv]] w fun e w' => e = .returned (.pointer (some ⟨w.heap.size, 0, none⟩)) ∧ ∃ (f : Nat → Value) (ev : Value) (m1 m2 : Nat),
      DecMem B w' w.heap.size f { ents := [], max := size, allowed := size, on := true, first := true } 0 ev m1 m2 [] [] ∧ f 8 = .func F #[] #[cv] ∧ f 11 = .slice none 0 0 ∧ f 12 = .slice none 0 0 ∧ f 13 = .int .i64 0 ∧ f 14 = .int .i8 0 ∧ ev.ownBlock = none ∧ w.heap.size < m1 ∧ w.heap.size < m2 ∧ Below w.heap.size w w' := by
  go_enter Tryd.func20, Tryd.ntmps20
  go_wp2_with fail
  have hr0 : Row (w.alloc (.cells (dec0 (.func F #[] #[cv])) 82)) w.heap.size 16 (fun i => (dec0 (.func F #[] #[cv])).getD i undef) :=
    Row.new w _ (by decide) rfl (fun i hi => by rw [Array.getD_eq_getD_getElem?]; rw [Array.getElem?_eq_getElem (show i < (dec0 (.func F #[] #[cv])).size from hi)]; rfl)
  refine (init_any _ _ _ _ (by exact hr0) (by decide) rfl rfl).mono ?_
  rintro e w1 ⟨rfl, m1, m2, hm1, hm2, hne, hM1, hM2, hr1, hu1⟩
  have hu : Upd (fun _ => False) w w1 := ((Upd.refl (fun _ => False) w).alloc (.cells (dec0 (.func F #[] #[cv])) 82)).trans hu1 (fun i hi e => absurd hi (by subst e; exact Nat.lt_irrefl _))
  have hd : w.heap.size < (w.alloc (.cells (dec0 (.func F #[] #[cv])) 82)).heap.size := by simp
  have hd1 : w.heap.size < m1 := Nat.lt_of_lt_of_le hd hm1
  have hd2 : w.heap.size < m2 := Nat.lt_of_lt_of_le hd hm2
  clear hr0 hu1 hm1 hm2 hd
  have HB := Lib.hid hB
  have Hd1 := Lib.hid hd1
  have Hd2 := Lib.hid hd2
  have HM1 := Lib.hid hM1
  have HM2 := Lib.hid hM2
  have Hne := Lib.hid hne
  have Hu := Lib.hid hu
  have Hr1 := Lib.hid hr1
  generalize hdd : w.heap.size = d at *
  have Hdd := Lib.hid hdd
  have c7 : w1.cell? ⟨d, 7, none⟩ = some (.int .u32 0) := Hr1.out.cell' (i := 7) (by decide) rfl
  have fz := fun i => Hr1.out.unfrozen i none
  clear hB hd1 hd2 hM1 hM2 hne hu hr1 hdd
  go_wp2_with fail
  have hr2 := Hr1.out.set 7 (.int .u32 (size : Nat))
  have hu2 : Upd (fun _ => False) w (w1.setCell ⟨d, 7, none⟩ (.int .u32 (size : Nat))) := Hu.out.setCell (a := ⟨d, 7, none⟩) (Or.inr (Nat.le_of_eq Hdd.out)) _
  generalize hw2 : w1.setCell ⟨d, 7, none⟩ (.int .u32 (size : Nat)) = w2 at hr2 hu2 ⊢
  have hM1 : MapMem encS w2 m1 ([] : List (HD.Bs × Nat)) := HM1.out.of_heap (by rw [← hw2]; exact Below.heap_setCell _ _ _ _ (Nat.ne_of_gt Hd1.out))
  have hM2 : MapMem encP w2 m2 ([] : List ((HD.Bs × HD.Bs) × Nat)) := HM2.out.of_heap (by rw [← hw2]; exact Below.heap_setCell _ _ _ _ (Nat.ne_of_gt Hd2.out))
  clear hw2
  have hT : TabMem B w2 d 16 _ [] 0 (.slice none 0 0) m1 m2 [] [] := ⟨hr2, by decide, rfl, rfl, rfl, rfl, rfl, World.ownsRow_nil _ _ _ _, by simp [Value.ownBlock], Hne.out, ⟨HB.out, by have := HB.out; have := Hd1.out; omega, by have := HB.out; have := Hd2.out; omega⟩, hM1, hM2⟩
  have hS : Sized (fun i => if i = 7 then Value.int .u32 (size : Nat) else putF (putF (fun i => (dec0 (.func F #[] #[cv])).getD i undef) 3 (.map (some m1))) 4 (.map (some m2)) i) [] 0 := ⟨rfl, rfl⟩
  have Hu2 := Lib.hid hu2
  clear hr2 hu2 hM1 hM2
  refine (setMax_any B w2 d 16 _ [] 0 0 size (.slice none 0 0) m1 m2 [] [] hT hS (by decide) hs (by decide)).mono ?_
  clear hT hS
  rintro e w3 ⟨rfl, q, ev, f, hq, -, hev, hf, hS3, hT3, hu3⟩
  have hq0 : q = 0 := by simpa using hq
  subst hq0
  have HS3 := Lib.hid hS3
  have HT3 := Lib.hid hT3
  have Hu3 := Lib.hid hu3
  have Hf := Lib.hid hf
  have Hev := Lib.hid hev
  clear hS3 hT3 hu3 hf hev hq
  go_wp2_with fail
  go_ret
  have hf := Hf.out
  have hb : Below d w w3 := by
    have h1 := Hu2.out.trans Hu3.out (F := fun _ => False) (fun i hi hF => by
      have := Hdd.out
      have := Hd1.out
      have := Hd2.out
      rcases hF with h | h | h | h
      · omega
      · cases h
      · omega
      · omega)
    exact h1.below (Nat.le_of_eq Hdd.out.symm) (fun k h => h.elim)
  rw [Hdd.out]
  refine ⟨rfl, f, ev, m1, m2, ⟨HT3.out, HS3.out, hf 7 (by decide), (hf 9 (by decide)).trans rfl, (hf 10 (by decide)).trans rfl, (hf 15 (by decide)).trans rfl⟩, (hf 8 (by decide)).trans rfl, (hf 11 (by decide)).trans rfl, (hf 12 (by decide)).trans rfl, (hf 13 (by decide)).trans rfl, (hf 14 (by decide)).trans rfl, Hev.out, Hd1.out, Hd2.out, hb⟩
end Go.Proofs.YtlkpeeoippbdoaaDoor
/-
  The codes of a decoder's errors.
-/
namespace Go.Proofs.YtlkpeeoippbdoaaDoor
open Go.ChangeShapes Go.WideShapes Go.ChangeAt Go.RowKit

theorem assertD_yes (p : Value) (w : World) : (Instr.typeAssert (.iface 97 p) 64 97 true).run Tryd.prog w = .ok (.tuple #[p, .bool true]) w := by
  simp [Instr.typeAssert, run_underlying Tryd.underlying97]
theorem assertI_yes (p : Value) (w : World) : (Instr.typeAssert (.iface 99 p) 64 99 true).run Tryd.prog w = .ok (.tuple #[p, .bool true]) w := by
  simp [Instr.typeAssert, run_underlying Tryd.underlying99]

theorem size100 : (Tryd.prog.info? 123).map (fun i => decide (i.size ≠ 0)) = some true := by kernel_rfl
theorem eql_other (a b : Addr) (h : a ≠ b) (w : World) {ca cb : Array Value} {ta tb : TypeId} (ha : w.heap[a.block]? = some (.cells ca ta (0, 0))) (hb : w.heap[b.block]? = some (.cells cb tb (0, 0))) :
    (binOp .eql 64 (.iface 121 (.pointer (some a))) (.iface 121 (.pointer (some b)))).run Tryd.prog w = .ok (.bool false) w := by
  obtain ⟨i, hi, hc⟩ : ∃ i, Tryd.prog.info? 121 = some i ∧ i.comparable = true := by
    have h := info85
    cases hi : Tryd.prog.info? 121 with
    | none => rw [hi] at h; cases h
    | some i => rw [hi] at h; exact ⟨i, rfl, by simpa using h⟩
  obtain ⟨j, hj, hs⟩ : ∃ j, Tryd.prog.info? 123 = some j ∧ j.size ≠ 0 := by
    have h := size100
    cases hj : Tryd.prog.info? 123 with
    | none => rw [hj] at h; cases h
    | some j => rw [hj] at h; exact ⟨j, rfl, by simpa using h⟩
  exact run_eql_iface_ptr_other w Tryd.underlying64 Tryd.underlying121 hi hc hj hs h ha hb

set_option maxRecDepth 100000 in
theorem codeOf_coding (a aI aL : Addr) (w : World) (he : w.cell? ⟨0, 0, none⟩ = some (.iface 121 (.pointer (some aI)))) (hl : w.cell? ⟨1, 0, none⟩ = some (.iface 121 (.pointer (some aL))))
    {n : Nat} (ha : Fresh n w a) (hI : Fresh 0 w aI) (hL : Fresh 0 w aL) (hIn : aI.block < n) (hLn : aL.block < n) :
    Calls Tryd.prog 26 #[codingErr a] w fun e w' => e = .returned (.tuple #[.int .i64 4, .int .i64 0]) ∧ Below w.heap.size w w' := by
  have hG : 0 < w.heap.size := World.block_lt_of_cell? w ⟨0, 0, none⟩ he
  have hG2 : 1 < w.heap.size := World.block_lt_of_cell? w ⟨1, 0, none⟩ hl
  have h1 : a ≠ aI := fun e => by have := ha.1; rw [e] at this; omega
  have h2 : a ≠ aL := fun e => by have := ha.1; rw [e] at this; omega
  obtain ⟨-, ca, ta, hca⟩ := ha
  obtain ⟨-, cI, tI, hcI⟩ := hI
  obtain ⟨-, cL, tL, hcL⟩ := hL
  have la : a.block < w.heap.size := (Array.getElem?_eq_some_iff.1 hca).1
  have lI : aI.block < w.heap.size := (Array.getElem?_eq_some_iff.1 hcI).1
  have lL : aL.block < w.heap.size := (Array.getElem?_eq_some_iff.1 hcL).1
  have up : ∀ (o : Obj) (k : Nat) (x : Obj), k < w.heap.size → w.heap[k]? = some x → (w.alloc o).heap[k]? = some x := fun o k x hk h => by
    show (w.heap.push o)[k]? = _
    rw [Array.getElem?_push, if_neg (Nat.ne_of_lt hk)]; exact h
  unfold codingErr
  go_enter Tryd.func26, Tryd.ntmps26
  have h61 := assertD_yes (.agg #[.iface 121 (.pointer (some a))])
  have h63 := assert63 (.pointer (some a))
  have heq := fun o n => eql_other a aI h1 ((w.alloc o).drewN n) (by exact up o _ _ la hca) (by exact up o _ _ lI hcI)
  have heq2 := fun o n => eql_other a aL h2 ((w.alloc o).drewN n) (by exact up o _ _ la hca) (by exact up o _ _ lL hcL)
  clear up
  go_wp2_with fail
  go_quiet (fail)
  go_wp2_with fail
  go_ret2
  exact ⟨rfl, ((Below.refl w.heap.size w).alloc (Nat.le_refl _) _).trans ⟨rfl, rfl, rfl, Nat.le_refl _, fun _ _ => rfl⟩⟩

set_option maxRecDepth 100000 in
theorem codeOf_index (i : Int) (w : World) :
    Calls Tryd.prog 26 #[.iface 97 (.agg #[.iface 99 (.int .i64 i)])] w fun e w' => e = .returned (.tuple #[.int .i64 1, .int .i64 i]) ∧ Below w.heap.size w w' := by
  go_enter Tryd.func26, Tryd.ntmps26
  have h61 := assertD_yes (.agg #[.iface 99 (.int .i64 i)])
  have h63 := assertI_yes (.int .i64 i)
  go_wp2_with fail
  go_quiet (fail)
  go_wp2_with fail
  go_ret2
  exact ⟨rfl, ((Below.refl w.heap.size w).alloc (Nat.le_refl _) _).trans ⟨rfl, rfl, rfl, Nat.le_refl _, fun _ _ => rfl⟩⟩
end Go.Proofs.YtlkpeeoippbdoaaDoor
/-
  PLAIN: the static table of HPACK (RFC 7541, appendix A), as bytes.
-/
namespace Go.Proofs.YtlkpeeoippbdoaaDoor.HD

def static : List (Bs × Bs) := [
  ([58, 97, 117, 116, 104, 111, 114, 105, 116, 121], []),
  ([58, 109, 101, 116, 104, 111, 100], [71, 69, 84]),
  ([58, 109, 101, 116, 104, 111, 100], [80, 79, 83, 84]),
  ([58, 112, 97, 116, 104], [47]),
  ([58, 112, 97, 116, 104], [47, 105, 110, 100, 101, 120, 46, 104, 116, 109, 108]),
  ([58, 115, 99, 104, 101, 109, 101], [104, 116, 116, 112]),
  ([58, 115, 99, 104, 101, 109, 101], [104, 116, 116, 112, 115]),
  ([58, 115, 116, 97, 116, 117, 115], [50, 48, 48]),
  ([58, 115, 116, 97, 116, 117, 115], [50, 48, 52]),
  ([58, 115, 116, 97, 116, 117, 115], [50, 48, 54]),
  ([58, 115, 116, 97, 116, 117, 115], [51, 48, 52]),
  ([58, 115, 116, 97, 116, 117, 115], [52, 48, 48]),
  ([58, 115, 116, 97, 116, 117, 115], [52, 48, 52]),
  ([58, 115, 116, 97, 116, 117, 115], [53, 48, 48]),
  ([97, 99, 99, 101, 112, 116, 45, 99, 104, 97, 114, 115, 101, 116], []),
  ([97, 99, 99, 101, 112, 116, 45, 101, 110, 99, 111, 100, 105, 110, 103], [103, 122, 105, 112, 44, 32, 100, 101, 102, 108, 97, 116, 101]),
  ([97, 99, 99, 101, 112, 116, 45, 108, 97, 110, 103, 117, 97, 103, 101], []),
  ([97, 99, 99, 101, 112, 116, 45, 114, 97, 110, 103, 101, 115], []),
  ([97, 99, 99, 101, 112, 116], []),
  ([97, 99, 99, 101, 115, 115, 45, 99, 111, 110, 116, 114, 111, 108, 45, 97, 108, 108, 111, 119, 45, 111, 114, 105, 103, 105, 110], []),
  ([97, 103, 101], []),
  ([97, 108, 108, 111, 119], []),
  ([97, 117, 116, 104, 111, 114, 105, 122, 97, 116, 105, 111, 110], []),
  ([99, 97, 99, 104, 101, 45, 99, 111, 110, 116, 114, 111, 108], []),
  ([99, 111, 110, 116, 101, 110, 116, 45, 100, 105, 115, 112, 111, 115, 105, 116, 105, 111, 110], []),
  ([99, 111, 110, 116, 101, 110, 116, 45, 101, 110, 99, 111, 100, 105, 110, 103], []),
  ([99, 111, 110, 116, 101, 110, 116, 45, 108, 97, 110, 103, 117, 97, 103, 101], []),
  ([99, 111, 110, 116, 101, 110, 116, 45, 108, 101, 110, 103, 116, 104], []),
  ([99, 111, 110, 116, 101, 110, 116, 45, 108, 111, 99, 97, 116, 105, 111, 110], []),
  ([99, 111, 110, 116, 101, 110, 116, 45, 114, 97, 110, 103, 101], []),
  ([99, 111, 110, 116, 101, 110, 116, 45, 116, 121, 112, 101], []),
  ([99, 111, 111, 107, 105, 101], []),
  ([100, 97, 116, 101], []),
  ([101, 116, 97, 103], []),
  ([101, 120, 112, 101, 99, 116], []),
  ([101, 120, 112, 105, 114, 101, 115], []),
  ([102, 114, 111, 109], []),
  ([104, 111, 115, 116], []),
  ([105, 102, 45, 109, 97, 116, 99, 104], []),
  ([105, 102, 45, 109, 111, 100, 105, 102, 105, 101, 100, 45, 115, 105, 110, 99, 101], []),
  ([105, 102, 45, 110, 111, 110, 101, 45, 109, 97, 116, 99, 104], []),
  ([105, 102, 45, 114, 97, 110, 103, 101], []),
  ([105, 102, 45, 117, 110, 109, 111, 100, 105, 102, 105, 101, 100, 45, 115, 105, 110, 99, 101], []),
  ([108, 97, 115, 116, 45, 109, 111, 100, 105, 102, 105, 101, 100], []),
  ([108, 105, 110, 107], []),
  ([108, 111, 99, 97, 116, 105, 111, 110], []),
  ([109, 97, 120, 45, 102, 111, 114, 119, 97, 114, 100, 115], []),
  ([112, 114, 111, 120, 121, 45, 97, 117, 116, 104, 101, 110, 116, 105, 99, 97, 116, 101], []),
  ([112, 114, 111, 120, 121, 45, 97, 117, 116, 104, 111, 114, 105, 122, 97, 116, 105, 111, 110], []),
  ([114, 97, 110, 103, 101], []),
  ([114, 101, 102, 101, 114, 101, 114], []),
  ([114, 101, 102, 114, 101, 115, 104], []),
  ([114, 101, 116, 114, 121, 45, 97, 102, 116, 101, 114], []),
  ([115, 101, 114, 118, 101, 114], []),
  ([115, 101, 116, 45, 99, 111, 111, 107, 105, 101], []),
  ([115, 116, 114, 105, 99, 116, 45, 116, 114, 97, 110, 115, 112, 111, 114, 116, 45, 115, 101, 99, 117, 114, 105, 116, 121], []),
  ([116, 114, 97, 110, 115, 102, 101, 114, 45, 101, 110, 99, 111, 100, 105, 110, 103], []),
  ([117, 115, 101, 114, 45, 97, 103, 101, 110, 116], []),
  ([118, 97, 114, 121], []),
  ([118, 105, 97], []),
  ([119, 119, 119, 45, 97, 117, 116, 104, 101, 110, 116, 105, 99, 97, 116, 101], [])]
/-- Which number a name's newest entry has. -/
def statS : List (Bs × Nat) := static.zipIdx.foldl (fun l e => mput l e.1.1 (e.2 + 1)) []
def statP : List ((Bs × Bs) × Nat) := static.zipIdx.map fun e => (e.1, e.2 + 1)
theorem static_len : static.length = 61 := by decide +kernel
end Go.Proofs.YtlkpeeoippbdoaaDoor.HD
/-
  PLAIN: what a decoder does with a block, representation by representation. No program in sight.
-/
namespace Go.Proofs.YtlkpeeoippbdoaaDoor.HD

/-- The entry of an index. -/
def entAt (ents : List (Bs × Bs)) (i : Nat) : Option (Bs × Bs) :=
  if i = 0 then none else if i ≤ 61 then static[i - 1]? else if i - 61 ≤ ents.length then ents[ents.length - (i - 61)]? else none
def tell (s : St) (f : Fld) : Option Fld := if s.on then some f else none

def pIdx (s : St) (v : Bs) : P1 :=
  match rvi 7 v with
  | .more => .more
  | .over => .bad .coding
  | .ok n rest => match entAt s.ents n with
    | none => .bad (.index n)
    | some e => .ok s.ents s.max (tell s ⟨e.1, e.2, false⟩) rest

/-- A literal whose name and value are known. -/
def pEnd (s : St) (idx sens : Bool) (n v rest : Bs) : P1 :=
  .ok (if idx then evict s.max (s.ents ++ [(n, v)]) else s.ents) s.max (tell s ⟨n, v, sens⟩) rest
/-- A literal behind its name: of an entry, or a text. -/
def pVal (s : St) (idx sens : Bool) (nm : Sum Bs (Bool × Bs)) (v : Bs) : P1 :=
  match rstr v with
  | .more => .more
  | .over => .bad .coding
  | .ok h b rest =>
    if s.on || idx then
      match (match nm with | .inl n => some n | .inr (h, b) => dstr h b) with
      | none => .bad .huff
      | some n => match dstr h b with
        | none => .bad .huff
        | some x => pEnd s idx sens n x rest
    else pEnd s idx sens (match nm with | .inl n => n | .inr _ => []) [] rest
def pLit (s : St) (n : Nat) (idx sens : Bool) (v : Bs) : P1 :=
  match rvi n v with
  | .more => .more
  | .over => .bad .coding
  | .ok i rest =>
    if 0 < i then match entAt s.ents i with
      | none => .bad (.index i)
      | some e => pVal s idx sens (.inl e.1) rest
    else match rstr rest with
      | .more => .more
      | .over => .bad .coding
      | .ok h b rest => pVal s idx sens (.inr (h, b)) rest

/-- One representation. -/
def pRepr (s : St) : Bs → P1
  | [] => .more
  | b :: p =>
    if 128 ≤ b.toNat then pIdx s (b :: p)
    else if 64 ≤ b.toNat then pLit s 6 true false (b :: p)
    else if b.toNat < 16 then pLit s 4 false false (b :: p)
    else if b.toNat < 32 then pLit s 4 false true (b :: p)
    else pUpd s (b :: p)

/-- What a call of Write leaves: the decoder, what was told, what is kept, an error. -/
structure WR where
  st : St
  out : List Fld
  save : Bs
  err : Option Er
def wr : Nat → St → List Fld → Bs → WR
  | 0, s, out, _ => ⟨s, out, [], none⟩
  | _ + 1, s, out, [] => ⟨s, out, [], none⟩
  | n + 1, s, out, v@(_ :: _) =>
    match pRepr s v with
    | .more => ⟨s, out, v, none⟩
    | .bad e => ⟨{ s with first := false }, out, [], some e⟩
    | .ok ents max o rest => wr n { s with ents := ents, max := max, first := false } (out ++ o.toList) rest
def write (s : St) (save p : Bs) : WR := if p = [] then ⟨s, [], save, none⟩ else wr (save ++ p).length s [] (save ++ p)
def close (s : St) (save : Bs) : WR := if save = [] then ⟨{ s with first := true }, [], [], none⟩ else ⟨s, [], [], some .coding⟩

theorem rstr_len {v : Bs} {h : Bool} {b r : Bs} (e : rstr v = .ok h b r) : r.length < v.length := by
  cases v with
  | nil => cases e
  | cons c p =>
    rw [rstr] at e
    split at e
    · cases e
    · cases e
    · rename_i n rest hr
      have := rvi_len hr
      split at e
      · cases e
      · injection e with _ _ e; subst e; simp only [List.length_drop] at *; omega

theorem pVal_len {s : St} {idx sens : Bool} {nm : Sum Bs (Bool × Bs)} {v : Bs} {ents : List (Bs × Bs)} {max : Nat} {o : Option Fld} {r : Bs} (e : pVal s idx sens nm v = .ok ents max o r) : r.length < v.length := by
  unfold pVal at e
  split at e
  · cases e
  · cases e
  · rename_i h b rest hr
    have := rstr_len hr
    split at e
    · split at e
      · cases e
      · split at e
        · cases e
        · unfold pEnd at e; injection e with _ _ _ e; subst e; exact this
    · unfold pEnd at e; injection e with _ _ _ e; subst e; exact this
theorem pLit_len {s : St} {n : Nat} {idx sens : Bool} {v : Bs} {ents : List (Bs × Bs)} {max : Nat} {o : Option Fld} {r : Bs} (e : pLit s n idx sens v = .ok ents max o r) : r.length < v.length := by
  unfold pLit at e
  split at e
  · cases e
  · cases e
  · rename_i i rest hr
    have h1 := rvi_len hr
    split at e
    · split at e
      · cases e
      · have := pVal_len e; omega
    · split at e
      · cases e
      · cases e
      · rename_i hh b rest2 hr2
        have h2 := rstr_len hr2
        have := pVal_len e
        omega
theorem pIdx_len {s : St} {v : Bs} {ents : List (Bs × Bs)} {max : Nat} {o : Option Fld} {r : Bs} (e : pIdx s v = .ok ents max o r) : r.length < v.length := by
  unfold pIdx at e
  split at e
  · cases e
  · cases e
  · rename_i i rest hr
    have h1 := rvi_len hr
    split at e
    · cases e
    · injection e with _ _ _ e; subst e; exact h1
theorem pUpd_len {s : St} {v : Bs} {ents : List (Bs × Bs)} {max : Nat} {o : Option Fld} {r : Bs} (e : pUpd s v = .ok ents max o r) : r.length < v.length := by
  unfold pUpd at e
  split at e
  · cases e
  · split at e
    · cases e
    · cases e
    · rename_i i rest hr
      have h1 := rvi_len hr
      split at e
      · cases e
      · injection e with _ _ _ e; subst e; exact h1
theorem pRepr_len {s : St} {v : Bs} {ents : List (Bs × Bs)} {max : Nat} {o : Option Fld} {r : Bs} (e : pRepr s v = .ok ents max o r) : r.length < v.length := by
  cases v with
  | nil => cases e
  | cons b p =>
    rw [pRepr] at e
    split at e
    · exact pIdx_len e
    · split at e
      · exact pLit_len e
      · split at e
        · exact pLit_len e
        · split at e
          · exact pLit_len e
          · exact pUpd_len e
end Go.Proofs.YtlkpeeoippbdoaaDoor.HD
/-
  parseHeaderFieldRepr: which function reads a representation.
-/
namespace Go.Proofs.YtlkpeeoippbdoaaDoor
open Go.ChangeShapes Go.WideShapes Go.ChangeAt Go.RowKit

theorem and_hi (b : Nat) (h : b < 256) : bits BinOp.and IntKind.u8 (b : Int) 128 = ((b / 128 * 128 : Nat) : Int) ∧ bits BinOp.and IntKind.u8 (b : Int) 192 = ((b / 64 * 64 : Nat) : Int) ∧ bits BinOp.and IntKind.u8 (b : Int) 240 = ((b / 16 * 16 : Nat) : Int) ∧ bits BinOp.and IntKind.u8 (b : Int) 224 = ((b / 32 * 32 : Nat) : Int) := by
  have key : ∀ b : Fin 256, bits BinOp.and IntKind.u8 (b.val : Int) 128 = ((b.val / 128 * 128 : Nat) : Int) ∧ bits BinOp.and IntKind.u8 (b.val : Int) 192 = ((b.val / 64 * 64 : Nat) : Int) ∧ bits BinOp.and IntKind.u8 (b.val : Int) 240 = ((b.val / 16 * 16 : Nat) : Int) ∧ bits BinOp.and IntKind.u8 (b.val : Int) 224 = ((b.val / 32 * 32 : Nat) : Int) := by decide +kernel
  exact key ⟨b, h⟩

/-- What is asked of the ends of a representation: a value comes back. -/
def Back (Q : Ending → World → Prop) : Prop := ∀ e w, Q e w → ∃ v, e = .returned v ∧ v.oneCell' = true

set_option maxHeartbeats 1000000 in
theorem repr_upd (d g o n cap b : Nat) (w : World) (Q : Ending → World → Prop) (c11 : w.cell? ⟨d, 11, none⟩ = some (.slice (some ⟨g, o, none⟩) (n + 1) cap)) (c0 : w.cell? ⟨g, o, none⟩ = some (.int .u8 (b : Nat))) (hb : b < 64) (hb2 : 32 ≤ b)
    (hQ : Back Q) (h : Calls Tryd.prog 58 #[.pointer (some ⟨d, 0, none⟩)] w Q) :
    Calls Tryd.prog 45 #[.pointer (some ⟨d, 0, none⟩)] w Q := by
  obtain ⟨a1, a2, a3, a4⟩ := and_hi b (by omega)
  have e1 : b / 128 * 128 = 0 := by omega
  have e2 : b / 64 * 64 = 0 := by omega
  have e3 : b / 16 * 16 ≠ 0 := by omega
  have e3' : b / 16 * 16 ≠ 16 := by omega
  have e4 : b / 32 * 32 = 32 := by omega
  rw [e1] at a1
  rw [e2] at a2
  rw [e4] at a4
  have f1 : decide (((b / 16 * 16 : Nat) : Int) = 0) = false := by simp; omega
  have f2 : decide (((b / 16 * 16 : Nat) : Int) = 16) = false := by simp; omega
  generalize b / 16 * 16 = x at *
  go_enter Tryd.func45, Tryd.ntmps45
  go_wp2_with fail
  refine h.mono ?_
  intro e w1 hq
  obtain ⟨v, rfl, hv⟩ := hQ e w1 hq
  go_wp2_with fail
  exact hq

set_option maxHeartbeats 1000000 in
theorem repr_idx (d g o n cap b : Nat) (w : World) (Q : Ending → World → Prop) (c11 : w.cell? ⟨d, 11, none⟩ = some (.slice (some ⟨g, o, none⟩) (n + 1) cap)) (c0 : w.cell? ⟨g, o, none⟩ = some (.int .u8 (b : Nat))) (hb : b < 256) (hb2 : 128 ≤ b)
    (hQ : Back Q) (h : Calls Tryd.prog 56 #[.pointer (some ⟨d, 0, none⟩)] w Q) :
    Calls Tryd.prog 45 #[.pointer (some ⟨d, 0, none⟩)] w Q := by
  obtain ⟨a1, a2, a3, a4⟩ := and_hi b (by omega)
  have e1 : b / 128 * 128 = 128 := by omega
  rw [e1] at a1
  clear a2 a3 a4
  go_enter Tryd.func45, Tryd.ntmps45
  go_wp2_with fail
  refine h.mono ?_
  intro e w1 hq
  obtain ⟨v, rfl, hv⟩ := hQ e w1 hq
  go_wp2_with fail
  exact hq

set_option maxHeartbeats 1000000 in
theorem repr_lit6 (d g o n cap b : Nat) (w : World) (Q : Ending → World → Prop) (c11 : w.cell? ⟨d, 11, none⟩ = some (.slice (some ⟨g, o, none⟩) (n + 1) cap)) (c0 : w.cell? ⟨g, o, none⟩ = some (.int .u8 (b : Nat))) (hb : b < 128) (hb2 : 64 ≤ b)
    (hQ : Back Q) (h : Calls Tryd.prog 57 #[.pointer (some ⟨d, 0, none⟩), .int .u8 6, .int .i64 0] w Q) :
    Calls Tryd.prog 45 #[.pointer (some ⟨d, 0, none⟩)] w Q := by
  obtain ⟨a1, a2, a3, a4⟩ := and_hi b (by omega)
  have e1 : b / 128 * 128 = 0 := by omega
  have e2 : b / 64 * 64 = 64 := by omega
  rw [e1] at a1
  rw [e2] at a2
  clear a3 a4
  go_enter Tryd.func45, Tryd.ntmps45
  go_wp2_with fail
  refine h.mono ?_
  intro e w1 hq
  obtain ⟨v, rfl, hv⟩ := hQ e w1 hq
  go_wp2_with fail
  exact hq

set_option maxHeartbeats 1000000 in
theorem repr_lit4 (d g o n cap b : Nat) (w : World) (Q : Ending → World → Prop) (c11 : w.cell? ⟨d, 11, none⟩ = some (.slice (some ⟨g, o, none⟩) (n + 1) cap)) (c0 : w.cell? ⟨g, o, none⟩ = some (.int .u8 (b : Nat))) (hb : b < 16)
    (hQ : Back Q) (h : Calls Tryd.prog 57 #[.pointer (some ⟨d, 0, none⟩), .int .u8 4, .int .i64 1] w Q) :
    Calls Tryd.prog 45 #[.pointer (some ⟨d, 0, none⟩)] w Q := by
  obtain ⟨a1, a2, a3, a4⟩ := and_hi b (by omega)
  have e1 : b / 128 * 128 = 0 := by omega
  have e2 : b / 64 * 64 = 0 := by omega
  have e3 : b / 16 * 16 = 0 := by omega
  rw [e1] at a1
  rw [e2] at a2
  rw [e3] at a3
  clear a4
  go_enter Tryd.func45, Tryd.ntmps45
  go_wp2_with fail
  refine h.mono ?_
  intro e w1 hq
  obtain ⟨v, rfl, hv⟩ := hQ e w1 hq
  go_wp2_with fail
  exact hq

set_option maxHeartbeats 1000000 in
theorem repr_lit4s (d g o n cap b : Nat) (w : World) (Q : Ending → World → Prop) (c11 : w.cell? ⟨d, 11, none⟩ = some (.slice (some ⟨g, o, none⟩) (n + 1) cap)) (c0 : w.cell? ⟨g, o, none⟩ = some (.int .u8 (b : Nat))) (hb : b < 32) (hb2 : 16 ≤ b)
    (hQ : Back Q) (h : Calls Tryd.prog 57 #[.pointer (some ⟨d, 0, none⟩), .int .u8 4, .int .i64 2] w Q) :
    Calls Tryd.prog 45 #[.pointer (some ⟨d, 0, none⟩)] w Q := by
  obtain ⟨a1, a2, a3, a4⟩ := and_hi b (by omega)
  have e1 : b / 128 * 128 = 0 := by omega
  have e2 : b / 64 * 64 = 0 := by omega
  have e3 : b / 16 * 16 = 16 := by omega
  rw [e1] at a1
  rw [e2] at a2
  rw [e3] at a3
  clear a4
  go_enter Tryd.func45, Tryd.ntmps45
  go_wp2_with fail
  refine h.mono ?_
  intro e w1 hq
  obtain ⟨v, rfl, hv⟩ := hQ e w1 hq
  go_wp2_with fail
  exact hq

end Go.Proofs.YtlkpeeoippbdoaaDoor
/-
  A decoder that is in use: its table, its emitter; what a representation leaves; what else is kept.
-/
namespace Go.Proofs.YtlkpeeoippbdoaaDoor
open Go.ChangeShapes Go.WideShapes Go.ChangeAt Go.RowKit

/-- Blocks of F may have changed, and blocks of bytes that are not older than B. -/
structure Kept (B : Nat) (F : Nat → Prop) (w w' : World) : Prop where
  below : Below B w w'
  block : ∀ k, k < w.heap.size → ¬ F k → ¬ IsU8 w k → w'.heap[k]? = w.heap[k]?
theorem IsU8.of_heap {w w' : World} {g : Nat} (h : IsU8 w g) (e : w'.heap[g]? = w.heap[g]?) : IsU8 w' g := by
  obtain ⟨cs, fz, h⟩ := h
  exact ⟨cs, fz, e.trans h⟩
theorem IsU8.lt {w : World} {g : Nat} (h : IsU8 w g) : g < w.heap.size := by
  obtain ⟨cs, fz, h⟩ := h
  exact (Array.getElem?_eq_some_iff.1 h).1
namespace Kept
variable {B : Nat} {F G : Nat → Prop} {w w1 w2 : World}
theorem refl (B : Nat) (F : Nat → Prop) (w : World) : Kept B F w w := ⟨Below.refl B w, fun _ _ _ _ => rfl⟩
theorem trans (h : Kept B F w w1) (k : Kept B G w1 w2) (hG : ∀ i, i < w.heap.size → G i → F i) : Kept B F w w2 :=
  ⟨h.below.trans k.below, fun i hi hn hu => by
    have e := h.block i hi hn hu
    exact (k.block i (Nat.lt_of_lt_of_le hi h.below.size) (fun hg => hn (hG i hi hg)) (fun hu' => hu (hu'.of_heap e.symm))).trans e⟩
theorem step (h : Kept B F w w1) (k : Kept B F w1 w2) : Kept B F w w2 := h.trans k fun _ _ h => h
theorem mono (h : Kept B F w w1) (hG : ∀ i, F i → G i) : Kept B G w w1 := ⟨h.below, fun i hi hn => h.block i hi fun hf => hn (hG i hf)⟩
theorem of_upd (h : Upd F w w1) (hB : B ≤ w.heap.size) (hF : ∀ k, F k → B ≤ k) : Kept B F w w1 := ⟨h.below hB hF, fun i hi hn _ => h.block i hi hn⟩
theorem of_below (h : Below w.heap.size w w1) (hB : B ≤ w.heap.size) : Kept B F w w1 := ⟨h.mono hB, fun i hi _ _ => h.block i hi⟩
theorem of_same (h : w1.heap = w.heap) (h1 : w1.os = w.os) (h2 : w1.tape = w.tape) (h3 : w1.output = w.output) : Kept B F w w1 := ⟨⟨h1, h2, h3, by rw [h]; exact Nat.le_refl _, fun _ _ => by rw [h]⟩, fun _ _ _ _ => by rw [h]⟩
end Kept

/-- Whom a decoder tells its fields: the value of the function; what was told; the blocks that are its own. -/
structure Emitter where
  val : Value
  holds : World → List HD.Fld → (Nat → Prop) → Prop
  frame : ∀ {w w' : World} {l : List HD.Fld} {E : Nat → Prop}, holds w l E → (∀ k, E k → w'.heap[k]? = w.heap[k]?) → holds w' l E
  lt : ∀ {w : World} {l : List HD.Fld} {E : Nat → Prop} {k : Nat}, holds w l E → E k → k < w.heap.size
  kind : ∀ {w : World} {l : List HD.Fld} {E : Nat → Prop} {k : Nat}, holds w l E → E k → ¬ IsU8 w k

/-- Where a decoder's parts lie. -/
structure DP where
  f : Nat → Value
  cnt : Nat
  ev : Value
  m1 : Nat
  m2 : Nat
  l1 : List (HD.Bs × Nat)
  l2 : List ((HD.Bs × HD.Bs) × Nat)
  E : Nat → Prop
/-- The blocks of a decoder and of its emitter. -/
def DP.own (d : Nat) (p : DP) (k : Nat) : Prop := tabOwn d p.ev p.m1 p.m2 k ∨ p.E k

/-- The numbers of a decoder's table stay small. -/
structure SOK (s : HD.St) : Prop where
  size : HD.tsize s.ents ≤ s.max
  max : s.max ≤ 2 ^ 31
  allowed : s.allowed ≤ 2 ^ 31
  short : ∀ e ∈ s.ents, e.1.length ≤ 2 ^ 27 ∧ e.2.length ≤ 2 ^ 27

theorem tsize_ge (l : List (HD.Bs × HD.Bs)) : 32 * l.length ≤ HD.tsize l := by
  induction l with
  | nil => simp [HD.tsize]
  | cons e l ih => rw [HD.tsize_cons]; simp only [List.length_cons, HD.esize]; omega
theorem SOK.small {s : HD.St} (h : SOK s) {cnt : Nat} (hc : cnt + s.ents.length + 1 < 2 ^ 62) : Small s cnt := by
  have h1 := tsize_ge s.ents
  have h2 := h.size
  have h3 := h.max
  have h4 := h.allowed
  exact ⟨hc, by omega, by omega, by omega, by omega⟩
theorem SOK.resize {s : HD.St} (h : SOK s) {n : Nat} (hn : n ≤ 2 ^ 31) : SOK { s with ents := HD.evict n s.ents, max := n } := by
  refine ⟨HD.evict_le n s.ents, hn, h.allowed, fun e he => h.short e ?_⟩
  obtain ⟨k, -, hk⟩ := HD.evict_drop n s.ents
  have he' : e ∈ HD.evict n s.ents := he
  rw [hk] at he'
  exact List.mem_of_mem_drop he'

structure Live (B : Nat) (w : World) (d : Nat) (M : Emitter) (s : HD.St) (l : List HD.Fld) (p : DP) : Prop where
  mem : DecMem B w d p.f s p.cnt p.ev p.m1 p.m2 p.l1 p.l2
  em : M.holds w l p.E
  emB : ∀ k, p.E k → B ≤ k
  emv : p.f 8 = M.val
  apart : ∀ k, tabOwn d p.ev p.m1 p.m2 k → ¬ p.E k
  ok : SOK s
namespace Live
variable {B : Nat} {w w' : World} {d : Nat} {M : Emitter} {s : HD.St} {l : List HD.Fld} {p : DP}
theorem row (h : Live B w d M s l p) : Row w d 16 p.f := h.mem.tab.row
theorem lt (h : Live B w d M s l p) : d < w.heap.size := h.row.lt
theorem ge (h : Live B w d M s l p) {k : Nat} (hk : p.own d k) : B ≤ k := hk.elim h.mem.tab.own_ge (h.emB k)
theorem own_lt (h : Live B w d M s l p) {k : Nat} (hk : p.own d k) : k < w.heap.size := hk.elim h.mem.tab.own_lt (h.em |> fun e hk => M.lt e hk)
theorem kind (h : Live B w d M s l p) {k : Nat} (hu : IsU8 w k) : ¬ p.own d k := fun hk => hk.elim (not_own_u8 h.mem.tab hu) fun he => M.kind h.em he hu
theorem lo (h : Live B w d M s l p) : B ≤ w.heap.size := Nat.le_trans h.mem.tab.lo.1 (Nat.le_of_lt h.lt)
theorem dE (h : Live B w d M s l p) : ¬ p.E d := h.apart d (Or.inl rfl)
theorem frame (h : Live B w d M s l p) (hk : ∀ k, p.own d k → w'.heap[k]? = w.heap[k]?) : Live B w' d M s l p :=
  ⟨⟨h.mem.tab.frame fun k hk' => hk k (Or.inl hk'), h.mem.sized, h.mem.allowed, h.mem.on, h.mem.most, h.mem.first⟩, M.frame h.em fun k hk' => hk k (Or.inr hk'), h.emB, h.emv, h.apart, h.ok⟩
theorem below (h : Live B w d M s l p) (hb : Below w.heap.size w w') : Live B w' d M s l p := h.frame fun k hk => hb.block k (h.own_lt hk)
/-- Cells of the decoder's struct behind the table have changed. -/
theorem put (h : Live B w d M s l p) {f' : Nat → Value} {b : Bool} (hr : Row w' d 16 f') (hf : ∀ i, i < 11 → f' i = p.f i) (h15 : f' 15 = .bool b) (ho : ∀ k, k ≠ d → p.own d k → w'.heap[k]? = w.heap[k]?) : Live B w' d M { s with first := b } l { p with f := f' } := by
  have hT := h.mem.tab
  refine ⟨⟨⟨hr, hT.big, (hf 0 (by decide)).trans hT.c0, (hf 1 (by decide)).trans hT.c1, (hf 2 (by decide)).trans hT.c2, (hf 3 (by decide)).trans hT.c3, (hf 4 (by decide)).trans hT.c4,
    ownsRow_of_heap hT.own fun g hg => ho g (fun e => hT.ne (by rw [hg, e])) (Or.inl (Or.inr (Or.inl hg))), hT.ne, hT.mm, hT.lo, hT.map1.of_heap (ho _ (fun e => hT.b_m1 e.symm) (Or.inl (Or.inr (Or.inr (Or.inl rfl))))), hT.map2.of_heap (ho _ (fun e => hT.b_m2 e.symm) (Or.inl (Or.inr (Or.inr (Or.inr rfl)))))⟩,
    ⟨(hf 5 (by decide)).trans h.mem.sized.size, (hf 6 (by decide)).trans h.mem.sized.max⟩, (hf 7 (by decide)).trans h.mem.allowed, (hf 9 (by decide)).trans h.mem.on, (hf 10 (by decide)).trans h.mem.most, h15⟩, ?_, h.emB, (hf 8 (by decide)).trans h.emv, h.apart, ⟨h.ok.size, h.ok.max, h.ok.allowed, h.ok.short⟩⟩
  exact M.frame h.em fun k hk => ho k (fun e => h.dE (e ▸ hk)) (Or.inr hk)
end Live

/-- The package's variables that decoding reads. -/
structure Env (B : Nat) (w : World) (aI aN aL : Addr) : Prop where
  len : LenTab w
  code : CodeTab w
  eI : w.cell? ⟨0, 0, none⟩ = some (.iface 121 (.pointer (some aI)))
  eN : w.cell? ⟨2, 0, none⟩ = some (.iface 121 (.pointer (some aN)))
  eL : w.cell? ⟨1, 0, none⟩ = some (.iface 121 (.pointer (some aL)))
  fI : Fresh 0 w aI
  fN : Fresh 0 w aN
  fL : Fresh 0 w aL
  ne : aI ≠ aN
  bI : aI.block < B
  bN : aN.block < B
  bL : aL.block < B
  g1 : 4 < B
  g2 : 3 < B
  g3 : 0 < B
  g4 : 2 < B
  g5 : 1 < B
theorem Env.below {B : Nat} {w w' : World} {aI aN aL : Addr} (h : Env B w aI aN aL) (hb : Below B w w') : Env B w' aI aN aL :=
  ⟨h.len.below hb h.g1, h.code.below hb h.g2, (hb.cell (p := ⟨0, 0, none⟩) h.g3).trans h.eI, (hb.cell (p := ⟨2, 0, none⟩) h.g4).trans h.eN, (hb.cell (p := ⟨1, 0, none⟩) h.g5).trans h.eL,
    h.fI.of_heap (hb.block _ h.bI), h.fN.of_heap (hb.block _ h.bN), h.fL.of_heap (hb.block _ h.bL), h.ne, h.bI, h.bN, h.bL, h.g1, h.g2, h.g3, h.g4, h.g5⟩

/-- How a representation ends. -/
def REnds (B : Nat) (w : World) (d g : Nat) (M : Emitter) (s : HD.St) (l : List HD.Fld) (p : DP) (aI aN : Addr) : HD.P1 → Ending → World → Prop
  | .more, e, w' => e = .returned (.iface 121 (.pointer (some aN))) ∧ Below w.heap.size w w'
  | .bad er, e, w' => (∃ x, e = .returned x ∧ ErrV w.heap.size w' aI er x) ∧ Below w.heap.size w w'
  | .ok ents max o rest, e, w' => e = .returned .nilIface ∧ ∃ (p' : DP) (o' cap' : Nat), Live B w' d M { s with ents := ents, max := max } (l ++ o.toList) p' ∧ (∀ k, p'.own d k → p.own d k ∨ w.heap.size ≤ k) ∧ (∀ i, 9 ≤ i → i ≠ 11 → p'.f i = p.f i) ∧
      p'.f 11 = .slice (some ⟨g, o', none⟩) rest.length cap' ∧ Buf w' g o' cap' rest ∧ Upd (p.own d) w w' ∧ p'.cnt + ents.length ≤ p.cnt + s.ents.length + 1

theorem REnds.back {B : Nat} {w : World} {d g : Nat} {M : Emitter} {s : HD.St} {l : List HD.Fld} {p : DP} {aI aN : Addr} {r : HD.P1} : Back (REnds B w d g M s l p aI aN r) := by
  intro e w' h
  cases r with
  | more => exact ⟨_, h.1, rfl⟩
  | bad er =>
    obtain ⟨⟨x, rfl, hx⟩, -⟩ := h
    refine ⟨x, rfl, ?_⟩
    cases er with
    | huff => rw [show x = _ from hx]; rfl
    | coding => obtain ⟨a, rfl, -⟩ := hx; rfl
    | index i => rw [show x = _ from hx]; rfl
  | ok => exact ⟨_, h.1, rfl⟩

/-- A size update. -/
theorem reprUpd_any (B : Nat) (w : World) (d g o cap : Nat) (M : Emitter) (s : HD.St) (l : List HD.Fld) (p : DP) (aI aN aL : Addr) (b : UInt8) (v : HD.Bs)
    (hL : Live B w d M s l p) (hE : Env B w aI aN aL) (hb : Buf w g o cap (b :: v)) (hg : IsU8 w g) (h11 : p.f 11 = .slice (some ⟨g, o, none⟩) (b :: v).length cap) (hc : p.cnt + s.ents.length + 1 < 2 ^ 62) (h1 : b.toNat < 64) (h2 : 32 ≤ b.toNat) :
    Calls Tryd.prog 45 #[.pointer (some ⟨d, 0, none⟩)] w (REnds B w d g M s l p aI aN (HD.pRepr s (b :: v))) := by
  have hP : HD.pRepr s (b :: v) = HD.pUpd s (b :: v) := by
    rw [HD.pRepr, if_neg (by omega), if_neg (by omega), if_neg (by omega), if_neg (by omega)]
  have c11 := hL.row.cell' (i := 11) (by decide) h11
  refine repr_upd d g o v.length cap b.toNat w _ c11 hb.head h1 h2 REnds.back ?_
  refine (pUpd_any B w d p.f s p.cnt p.ev p.m1 p.m2 p.l1 p.l2 g o cap (b :: v) aI aN hL.mem (hL.ok.small hc) hb hg h11 hE.eN).mono ?_
  intro e w' h
  rw [hP]
  cases hr : HD.pUpd s (b :: v) with
  | more => rw [hr] at h; exact h
  | bad er => rw [hr] at h; exact h
  | ok ents max o1 rest =>
    rw [hr] at h
    obtain ⟨rfl, q, ev', f', o', cap', l1', l2', hq, hlen, hM, hev, hf, h11', hb', hu⟩ := h
    have ho : o1 = none ∧ ∃ n, n ≤ s.allowed ∧ ents = HD.evict n s.ents ∧ max = n := by
      unfold HD.pUpd at hr
      split at hr
      · cases hr
      · split at hr
        · cases hr
        · cases hr
        · rename_i n r _
          split at hr
          · cases hr
          · injection hr with e1 e2 e3 e4
            exact ⟨e3.symm, n, by omega, e1.symm, e2.symm⟩
    obtain ⟨rfl, n, hn, rfl, rfl⟩ := ho
    have hown : ∀ k, tabOwn d ev' p.m1 p.m2 k → tabOwn d p.ev p.m1 p.m2 k := fun k hk => by
      unfold tabOwn at *
      rw [hev] at hk
      exact hk
    refine ⟨rfl, ⟨f', p.cnt + q, ev', p.m1, p.m2, l1', l2', p.E⟩, o', cap', ⟨hM, ?_, hL.emB, (hf 8 (by decide) (by decide)).trans hL.emv, fun k hk => hL.apart k (hown k hk), hL.ok.resize (Nat.le_trans hn hL.ok.allowed)⟩,
      fun k hk => Or.inl (hk.imp (hown k) id), fun i hi h => hf i (by omega) h, h11', hb', hu.mono fun k hk => Or.inl hk, ?_⟩
    · show M.holds w' (l ++ []) p.E
      rw [List.append_nil]
      exact M.frame hL.em fun k hk => hu.block k (M.lt hL.em hk) (fun h => hL.apart k h hk)
    · show p.cnt + q + (HD.evict max s.ents).length ≤ _
      omega
end Go.Proofs.YtlkpeeoippbdoaaDoor
/-
  The contract of Write, over a contract for one representation.
-/
namespace Go.Proofs.YtlkpeeoippbdoaaDoor
open Go.ChangeShapes Go.WideShapes Go.ChangeAt Go.RowKit

def ErrO (n : Nat) (w' : World) (aI : Addr) : Option HD.Er → Value → Prop
  | none, x => x = .nilIface
  | some er, x => ErrV n w' aI er x

/-- How a call of Write ends. -/
def WEnds (B : Nat) (w : World) (d : Nat) (M : Emitter) (l : List HD.Fld) (p : DP) (aI : Addr) (n N : Nat) (r : HD.WR) (e : Ending) (w' : World) : Prop :=
  (∃ x, e = .returned (.tuple #[.int .i64 (n : Nat), x]) ∧ ErrO w.heap.size w' aI r.err x) ∧
  ∃ p', Live B w' d M r.st (l ++ r.out) p' ∧ Save B w' d p'.f r.save ∧ (∀ k, p'.own d k → p.own d k ∨ w.heap.size ≤ k) ∧ Kept B (p.own d) w w' ∧ p'.cnt + r.st.ents.length + r.save.length ≤ N

/-- What is asked of one representation. -/
def StepOk (B d : Nat) (M : Emitter) (aI aN aL : Addr) (s : HD.St) (v : HD.Bs) : Prop :=
  ∀ (w : World) (p : DP) (l : List HD.Fld) (g o cap : Nat), Live B w d M s l p → Env B w aI aN aL → Buf w g o cap v → IsU8 w g → p.f 11 = .slice (some ⟨g, o, none⟩) v.length cap → p.cnt + s.ents.length + 1 < 2 ^ 62 → l.length + v.length ≤ 2 ^ 40 →
    Calls Tryd.prog 45 #[.pointer (some ⟨d, 0, none⟩)] w (REnds B w d g M s l p aI aN (HD.pRepr s v))
/-- What is asked of all representations that come behind one another. -/
structure Steps (B d : Nat) (M : Emitter) (aI aN aL : Addr) (G : HD.St → HD.Bs → Prop) : Prop where
  ok : ∀ s v, G s v → v ≠ [] → StepOk B d M aI aN aL s v
  next : ∀ s v ents max o rest, G s v → HD.pRepr s v = .ok ents max o rest → G { s with ents := ents, max := max, first := false } rest

theorem Save.kept {B : Nat} {w w' : World} {d : Nat} {f f' : Nat → Value} {cs : List UInt8} (h : Save B w d f cs) (h12 : f' 12 = f 12) (h13 : f' 13 = f 13) (h14 : f' 14 = f 14) (hk : ∀ g, (f 12).ownBlock = some g → w'.heap[g]? = w.heap[g]?) : Save B w' d f' cs :=
  ⟨by rw [h12]; exact ownsRow_of_heap h.own hk, by rw [h12]; exact h.ne, h13.trans h.off, by rw [h14]; exact h.last⟩
theorem Save.u8 {B : Nat} {w : World} {d : Nat} {f : Nat → Value} {cs : List UInt8} (h : Save B w d f cs) {g : Nat} (hg : (f 12).ownBlock = some g) : IsU8 w g := by
  obtain ⟨c, fz, hk⟩ := Lib.ownsRow_kind h.own g hg
  exact ⟨c, fz, hk⟩
theorem Save.drewN {B : Nat} {w : World} {d : Nat} {f : Nat → Value} {cs : List UInt8} (h : Save B w d f cs) (n : Nat) : Save B (w.drewN n) d f cs := h.kept rfl rfl rfl fun _ _ => rfl
theorem ErrV.move {n m : Nat} {w1 w2 : World} {aI : Addr} {er : HD.Er} {x : Value} (h : ErrV n w1 aI er x) (hm : m ≤ n) (hk : ∀ k, n ≤ k → k < w1.heap.size → w2.heap[k]? = w1.heap[k]?) : ErrV m w2 aI er x := by
  cases er with
  | huff => exact h
  | coding =>
    obtain ⟨a, e, hf⟩ := h
    have hlt : a.block < w1.heap.size := by
      obtain ⟨-, ca, ta, hc⟩ := hf
      exact (Array.getElem?_eq_some_iff.1 hc).1
    exact ⟨a, e, (hf.mono hm).of_heap (hk _ hf.1 hlt)⟩
  | index i => exact h
theorem eql_type (x y : Value) (w : World) : (binOp .eql 64 (.iface 97 x) (.iface 121 y)).run Tryd.prog w = .ok (.bool false) w :=
  run_eql_iface_types _ _ _ _ Tryd.underlying64 (by decide) w
theorem eql_nil (y : Value) (w : World) : (binOp .eql 64 .nilIface (.iface 121 y)).run Tryd.prog w = .ok (.bool false) w :=
  run_eql_iface_nil_left w _ y Tryd.underlying64

theorem keep_others {w w' : World} {d k : Nat} (hk : Lib.OthersKept 5 (some d) w w') (hlt : k < w.heap.size) (hne : k ≠ d) (hu : ¬ IsU8 w k) : w'.heap[k]? = w.heap[k]? := by
  obtain ⟨o, ho⟩ : ∃ o, w.heap[k]? = some o := ⟨_, Array.getElem?_eq_getElem hlt⟩
  rw [ho]
  exact hk k o ho (fun e => hne (Option.some.inj e)) (fun c fz e => hu ⟨c, fz, by rw [ho, e]⟩)
theorem Buf.of_own {w : World} {B g n cap : Nat} {cs : List UInt8} (h : w.ownsRow B 5 1 (.slice (some ⟨g, 0, none⟩) n cap) n (Lib.byteCells cs)) (hn : cs.length = n) : Buf w g 0 cap cs ∧ IsU8 w g := by
  rcases h.2 with ⟨e, -⟩ | ⟨g', cap', cur, e, hB, hg, h1, h2, h3, h4⟩
  · cases e
  · injection e with e1 e2 e3
    injection e1 with e1
    injection e1 with e1
    subst e1; subst e3
    refine ⟨⟨by omega, h2, fun i hi => ?_⟩, cur, _, hg⟩
    rw [Nat.zero_add, Lib.cell_of_heap hg, ← Array.getElem?_toList]
    have h5 : (cur.toList.take (n * 1))[i]? = (Lib.byteCells cs)[i]? := by rw [h4]
    rw [List.getElem?_take, if_pos (by omega)] at h5
    rw [h5]
    simp [Lib.byteCells, hi]
theorem own_reset {w : World} {B g n cap : Nat} {xs : List Value} (h : w.ownsRow B 5 1 (.slice (some ⟨g, 0, none⟩) n cap) n xs) : w.ownsRow B 5 1 (.slice (some ⟨g, 0, none⟩) 0 cap) 0 [] := by
  rcases h.2 with ⟨e, -⟩ | ⟨g', cap', cur, e, hB, hg, h1, h2, h3, h4⟩
  · cases e
  · injection e with e1 e2 e3
    injection e1 with e1
    injection e1 with e1
    subst e1; subst e3
    exact ⟨rfl, Or.inr ⟨g, cap, cur, rfl, hB, hg, Nat.zero_le _, h2, h3, by simp⟩⟩

/-- What stands in memory when the loop of Write comes round. -/
structure WInv (B : Nat) (w wr : World) (d : Nat) (M : Emitter) (l : List HD.Fld) (p : DP) (G : HD.St → HD.Bs → Prop) (N : Nat) (R : HD.WR) (s1 : HD.St) (out : List HD.Fld) (u : HD.Bs) (p1 : DP) (g o cap k : Nat) : Prop where
  live : Live B wr d M s1 (l ++ out) p1
  save : Save B wr d p1.f []
  res : HD.wr k s1 out u = R
  fuel : u.length ≤ k
  good : G s1 u
  sl : p1.f 11 = .slice (some ⟨g, o, none⟩) u.length cap
  buf : Buf wr g o cap u
  kind : IsU8 wr g
  own : ∀ k, p1.own d k → p.own d k ∨ w.heap.size ≤ k
  kept : Kept B (p.own d) w wr
  num : p1.cnt + s1.ents.length + u.length ≤ N
  tot : (l ++ out).length + u.length ≤ 2 ^ 40

def cellLen (w : World) (d : Nat) : Nat := match w.cell? ⟨d, 11, none⟩ with
  | some v => lenOf v
  | none => 0
theorem cellLen_eq {w : World} {d n cap : Nat} {a : Option Addr} (h : w.cell? ⟨d, 11, none⟩ = some (.slice a n cap)) : cellLen w d = n := by simp [cellLen, h, lenOf]

set_option maxHeartbeats 4000000 in
set_option maxRecDepth 100000 in
theorem write_any (B : Nat) (w : World) (d : Nat) (M : Emitter) (s : HD.St) (l : List HD.Fld) (p : DP) (aI aN aL : Addr) (G : HD.St → HD.Bs → Prop) (hS : Steps B d M aI aN aL G) (save v : HD.Bs) (sa : Option Addr) (cap N : Nat)
    (hL : Live B w d M s l p) (hE : Env B w aI aN aL) (hV : Save B w d p.f save) (hG : G s (save ++ v))
    (hsrc : v = [] ∨ ∃ g o, sa = some ⟨g, o, none⟩ ∧ Buf w g o cap v ∧ IsU8 w g) (hN : p.cnt + s.ents.length + save.length + v.length ≤ N) (hN2 : N < 2 ^ 46) (hT : l.length + (save ++ v).length ≤ 2 ^ 40) :
    Calls Tryd.prog 29 #[.pointer (some ⟨d, 0, none⟩), .slice sa v.length cap] w (WEnds B w d M l p aI v.length N (HD.write s save v)) := by
  obtain ⟨c12, a12, h12⟩ : ∃ (c : Nat) (a : Option Addr), p.f 12 = .slice a save.length c := by
    obtain ⟨a, c, h⟩ := own_form hV.own
    exact ⟨c, a, h⟩
  have e12 := hL.row.cell' (i := 12) (by decide) h12
  have e13 := hL.row.cell' (i := 13) (by decide) hV.off
  by_cases hv : v = []
  · subst hv
    have HL := Lib.hid hL
    have HV := Lib.hid hV
    have HN := Lib.hid hN
    clear hL hV hsrc hN hG hE hT
    go_enter Tryd.func29, Tryd.ntmps29
    go_wp2_with fail
    go_ret2
    refine ⟨⟨_, rfl, rfl⟩, p, ?_, HV.out, fun k hk => Or.inl hk, Kept.refl _ _ _, HN.out⟩
    show Live B _ d M s (l ++ []) p
    rw [List.append_nil]
    exact HL.out
  · obtain ⟨g, o, rfl, hb, hu⟩ := hsrc.resolve_left hv
    have hpos : 0 < v.length := List.length_pos_iff.2 hv
    have hfit := hb.fit
    have hmost := hb.most
    unfold maxLen at hmost
    have hlen0 : decide ((v.length : Int) = 0) = false := by simp; omega
    have hR : HD.write s save v = HD.wr (save ++ v).length s [] (save ++ v) := by rw [HD.write, if_neg hv]
    obtain ⟨R, hRR⟩ : ∃ R, R = HD.write s save v := ⟨_, rfl⟩
    rw [← hRR] at hR ⊢
    have HL := Lib.hid hL
    have HE := Lib.hid hE
    have HV := Lib.hid hV
    have HG := Lib.hid hG
    have HB := Lib.hid hb
    have HU := Lib.hid hu
    have HR := Lib.hid hR
    have HN := Lib.hid hN
    have HS := Lib.hid hS
    have HTt := Lib.hid hT
    have H12 := Lib.hid h12
    have hd : d < w.heap.size := hL.lt
    have hlo := hL.lo
    have c11 := hL.row.cell (i := 11) (by decide)
    have fz := fun i => hL.row.unfrozen i none
    clear hL hE hV hG hb hu hR hRR hN hS h12 hsrc hT
    go_enter Tryd.func29, Tryd.ntmps29
    go_wp2_with fail
    refine (saveLen_any d save.length c12 a12 _ (by exact e12) (by exact e13) (by have := HN.out; unfold maxLen; omega)).mono ?_
    rintro e w1 ⟨rfl, n1, rfl⟩
    clear e12 e13
    rcases Classical.em (save = []) with hs0 | hs0
    case' inl =>
      subst hs0
      go_wp2_with fail
      have hI : WInv B w ((w.drewN n1).setCell ⟨d, 11, none⟩ (.slice (some ⟨g, o, none⟩) v.length cap)) d M l p G N R s [] v { p with f := putF p.f 11 (.slice (some ⟨g, o, none⟩) v.length cap) } g o cap v.length := by
        have hgd : d ≠ g := fun e => HL.out.kind HU.out (e ▸ Or.inl (Or.inl rfl))
        have hl0 : Live B (w.drewN n1) d M s l p := HL.out.frame fun _ _ => rfl
        have hl1 : Live B ((w.drewN n1).setCell ⟨d, 11, none⟩ (.slice (some ⟨g, o, none⟩) v.length cap)) d M s l { p with f := putF p.f 11 (.slice (some ⟨g, o, none⟩) v.length cap) } :=
          hl0.put (b := s.first) (hl0.row.set 11 _) (fun i hi => by simp only [putF]; rw [if_neg (by omega)]) (by simp [putF, HL.out.mem.first]) (fun k hk _ => other_set (Ne.symm hk))
        refine ⟨?_, HV.out.kept rfl rfl rfl (fun q hq => other_set (fun e => HL.out.kind (HV.out.u8 hq) (e ▸ Or.inl (Or.inl rfl)))), HR.out.symm, Nat.le_refl _, HG.out, by simp [putF], HB.out.kept fun _ => other_set hgd, HU.out.of_heap (other_set hgd), fun k hk => Or.inl hk, ?_, ?_, by have := HTt.out; simpa using this⟩
        · rw [List.append_nil]; exact hl1
        · exact Kept.of_upd (((Upd.refl _ w).drewN n1).setCell (a := ⟨d, 11, none⟩) (Or.inl (Or.inl (Or.inl rfl))) _) hlo (fun k hk => HL.out.ge hk)
        · have := HN.out; simp at this; exact this
      generalize ((w.drewN n1).setCell ⟨d, 11, none⟩ (.slice (some ⟨g, o, none⟩) v.length cap)) = wq at hI ⊢
      have HI : Hid (∃ u p1 g o cap k, WInv B w wq d M l p G N R s [] u p1 g o cap k) := Lib.hid ⟨_, _, _, _, _, _, hI⟩
      clear hI c11 fz
    case' inr =>
      have hsl : 0 < save.length := List.length_pos_iff.2 hs0
      have hsN : save.length + v.length < 2 ^ 46 := by have := HN.out; omega
      have hsl0 : decide ((save.length : Int) = 0) = false := by simp; omega
      go_wp2_with fail
      have hgd : d ≠ g := fun e => HL.out.kind HU.out (e ▸ Or.inl (Or.inl rfl))
      refine (saveWrite_any B d v.length cap ⟨g, o, none⟩ p.f save v _ (by exact HL.out.row) (HV.out.drewN n1) HL.out.mem.tab.lo.1 (by exact hlo) rfl (Ne.symm hgd) (fun j x hj => ?_) (by omega)).mono ?_
      · have hj' : j < v.length := by
          have := (List.getElem?_eq_some_iff.1 hj).1
          rwa [byteCells_len] at this
        rw [Lib.addr_add]
        refine (HB.out.cell j hj').trans ?_
        rw [← hj]; simp [Lib.byteCells, hj']
      rintro e w1 ⟨rfl, f1, hr1, hs1, hf1, hb1, hk1⟩
      obtain ⟨nn, hnn⟩ : ∃ nn, (save ++ v).length = nn := ⟨_, rfl⟩
      have hn0 : 0 < nn := by rw [← hnn, List.length_append]; omega
      have hnb : nn < 2 ^ 46 := by rw [← hnn, List.length_append]; exact hsN
      have hown := hs1.own
      rw [hnn] at hown
      obtain ⟨gs, cs, h12'⟩ : ∃ g cap, f1 12 = .slice (some ⟨g, 0, none⟩) nn cap := by
        rcases hown.2 with ⟨-, h0⟩ | ⟨g, cap, cur, e, -⟩
        · omega
        · exact ⟨g, cap, e⟩
      rw [h12'] at hown
      obtain ⟨hbs, hgs⟩ := Buf.of_own hown hnn
      have hfit2 : nn ≤ cs := hnn ▸ hbs.fit
      obtain ⟨lr, h14'⟩ := hs1.last
      have q12 := hr1.cell' (i := 12) (by decide) h12'
      have q13 := hr1.cell' (i := 13) (by decide) hs1.off
      have q11 := hr1.cell (i := 11) (by decide)
      have fz1 := fun i => hr1.unfrozen i none
      have hne2 : gs ≠ d := fun e => hs1.ne (by rw [h12', e]; rfl)
      have HK1 := Lib.hid hk1
      have HB1 := Lib.hid hb1
      have HR1 := Lib.hid hr1
      have HS1 := Lib.hid hs1
      have HF1 := Lib.hid hf1
      have HO := Lib.hid hown
      have HBS := Lib.hid hbs
      have HGS := Lib.hid hgs
      have HNN := Lib.hid hnn
      have H12' := Lib.hid h12'
      clear hk1 hb1 hr1 hs1 hf1 hown hbs hgs hnn h12' c11 fz
      go_wp2_with fail
      refine (saveBytes_any d nn cs (some ⟨gs, 0, none⟩) _ (by exact q12) (by exact q13) hfit2 HBS.out.most).mono ?_
      rintro e w2 ⟨rfl, n2, rfl⟩
      go_wp2_with fail
      have hr2 : Row ((w1.drewN n2).setCell ⟨d, 11, none⟩ (.slice (some ⟨gs, 0, none⟩) nn cs)) d 16 (putF f1 11 (.slice (some ⟨gs, 0, none⟩) nn cs)) := (HR1.out.of_heap (w' := w1.drewN n2) rfl).set 11 _
      refine (saveReset_any d nn cs (some ⟨gs, 0, none⟩) _ _ (by exact hr2) (by simp [putF, H12'.out]) (by simp [putF, HS1.out.off]) lr (by simp [putF, h14'])).mono ?_
      rintro e w3 ⟨rfl, hr3, hu3⟩
      have hI : WInv B w w3 d M l p G N R s [] (save ++ v) { p with f := putF (putF (putF f1 11 (.slice (some ⟨gs, 0, none⟩) nn cs)) 12 (.slice (some ⟨gs, 0, none⟩) 0 cs)) 14 (.int .i8 0) } gs 0 cs (save ++ v).length := by
        have hk : ∀ k, k ≠ d → k < w1.heap.size → w3.heap[k]? = w1.heap[k]? := fun k hk hlt =>
          (hu3.block k (by simpa using hlt) hk).trans (other_set (w := w1.drewN n2) (Ne.symm hk))
        have hk2 : ∀ k, k < w.heap.size → k ≠ d → ¬ IsU8 w k → w3.heap[k]? = w.heap[k]? := fun k hlt hne hu =>
          (hk k hne (Nat.lt_of_lt_of_le hlt HB1.out.size)).trans (keep_others HK1.out hlt hne hu)
        have hgl := HGS.out.lt
        refine ⟨?_, ⟨?_, ?_, ?_, 0, ?_⟩, HR.out.symm, Nat.le_refl _, HG.out, ?_, ?_, HGS.out.of_heap (hk gs hne2 hgl), fun k hk => Or.inl hk, ⟨?_, fun k hlt hn hu => hk2 k hlt (fun e => hn (e ▸ Or.inl (Or.inl rfl))) hu⟩, ?_, by have := HTt.out; simpa using this⟩
        · rw [List.append_nil]
          refine HL.out.put (b := s.first) hr3 (fun i hi => ?_) ?_ (fun k hne ho => hk2 k (HL.out.own_lt ho) hne fun hu => HL.out.kind hu ho)
          · simp only [putF]; rw [if_neg (by omega), if_neg (by omega), if_neg (by omega)]; exact HF1.out i (Or.inl (by omega))
          · simp [putF]; rw [HF1.out 15 (Or.inr rfl)]; exact HL.out.mem.first
        · have : (putF (putF (putF f1 11 (.slice (some ⟨gs, 0, none⟩) nn cs)) 12 (.slice (some ⟨gs, 0, none⟩) 0 cs)) 14 (.int .i8 0)) 12 = .slice (some ⟨gs, 0, none⟩) 0 cs := by simp [putF]
          dsimp only [List.length_nil]
          rw [this]
          exact ownsRow_of_heap (own_reset HO.out) fun q hq => by injection hq with hq; subst hq; exact hk gs hne2 hgl
        · simp [putF, Value.ownBlock, hne2]
        · simp [putF, HS1.out.off]
        · simp [putF]
        · simp [putF, HNN.out]
        · exact HBS.out.kept fun _ => hk gs hne2 hgl
        · have hw0 : Below B w (w.drewN n1) := ⟨rfl, rfl, rfl, Nat.le_refl _, fun _ _ => rfl⟩
          exact ((hw0.trans HB1.out).trans ⟨hu3.os, hu3.tape, hu3.output, by have := hu3.size; simpa using this, fun k hk' => by
            have hdB : B ≤ d := HL.out.mem.tab.lo.1
            exact hk k (by omega) (by have := HB1.out.size; have : w.heap.size ≤ w1.heap.size := this; omega)⟩)
        · have := HN.out; rw [List.length_append]; exact (by omega : p.cnt + s.ents.length + (save.length + v.length) ≤ N)
      have HI : Hid (∃ u p1 g o cap k, WInv B w w3 d M l p G N R s [] u p1 g o cap k) := Lib.hid ⟨_, _, _, _, _, _, hI⟩
      clear hI hr3 hu3 q11 q12 q13 fz1 hr2
      go_wp2_with fail
    all_goals
      obtain ⟨u0, p0, g0, o0, cap0, k0, hI0⟩ := HI.out
      have HI0 := Lib.hid hI0
      clear HI hI0
      go_loopw [5] (fun e5 wr => ∃ (s1 : HD.St) (out : List HD.Fld) (u : HD.Bs) (p1 : DP) (g o cap k : Nat), e5 = .nilIface ∧ WInv B w wr d M l p G N R s1 out u p1 g o cap k) (fun _ wr => cellLen wr d)
      case atStart => exact ⟨s, [], u0, p0, g0, o0, cap0, k0, rfl, HI0.out⟩
      case round =>
        obtain ⟨s1, out, u, p1, g1, o1, cap1, k1, rfl, hI1⟩ := hrel
        have HI1 := Lib.hid hI1
        have k11 := hI1.live.row.cell' (i := 11) (by decide) hI1.sl
        have k15 := hI1.live.row.cell' (i := 15) (by decide) hI1.live.mem.first
        have k10 := hI1.live.row.cell' (i := 10) (by decide) hI1.live.mem.most
        have kfz := fun i => hI1.live.row.unfrozen i none
        have kE := HE.out.below hI1.kept.below
        clear hI1
        cases u with
        | nil =>
          go_wp2_with fail
          go_ret2
          have hR2 : R = ⟨s1, out, [], none⟩ := by rw [← HI1.out.res]; cases k1 <;> rfl
          rw [hR2]
          exact ⟨⟨_, rfl, rfl⟩, p1, HI1.out.live, HI1.out.save, HI1.out.own, HI1.out.kept, HI1.out.num⟩
        | cons b u =>
          obtain ⟨nu, hnu⟩ : ∃ nu, (b :: u).length = nu := ⟨_, rfl⟩
          have hnu0 : decide (0 < nu) = true := by rw [← hnu]; simp
          rw [hnu] at k11
          have Hnu := Lib.hid hnu
          clear hnu
          obtain ⟨k2, rfl⟩ : ∃ k2, k1 = k2 + 1 := ⟨k1 - 1, by have := HI1.out.fuel; simp at this; omega⟩
          have Hres : Hid (R = match HD.pRepr s1 (b :: u) with
            | .more => ⟨s1, out, b :: u, none⟩
            | .bad e => ⟨{ s1 with first := false }, out, [], some e⟩
            | .ok ents max o rest => HD.wr k2 { s1 with ents := ents, max := max, first := false } (out ++ o.toList) rest) := Lib.hid HI1.out.res.symm
          go_wp2_with fail
          refine (HS.out.ok s1 (b :: u) HI1.out.good (by simp) wr p1 (l ++ out) g1 o1 cap1 HI1.out.live kE HI1.out.buf HI1.out.kind HI1.out.sl (by have := HI1.out.num; simp at this; omega) HI1.out.tot).mono ?_
          intro e w4 hq
          clear k11 k15 k10 kfz
          cases hr : HD.pRepr s1 (b :: u) with
          | more =>
            rw [hr] at hq Hres
            obtain ⟨rfl, hb4⟩ := hq
            have hL4 := HI1.out.live.below hb4
            have hE4 := kE.below (hb4.mono HI1.out.live.lo)
            have k11 := hL4.row.cell' (i := 11) (by decide) HI1.out.sl
            have k10 := hL4.row.cell' (i := 10) (by decide) hL4.mem.most
            have kN := hE4.eN
            have heq := eql_same aN
            rw [Hnu.out] at k11
            have HL4 := Lib.hid hL4
            have Hb4 := Lib.hid hb4
            clear hL4 hE4 hb4 hr
            go_wp2_with fail
            go_quiet (fail)
            go_wp2_with fail
            refine stillTail 7 (by kernel_rfl) (by kernel_rfl) ?_
            simp only [List.take_succ_cons, List.take_zero, List.drop_succ_cons, List.drop_zero]
            repeat (refine wpStill_step (fun K hK => ?_); go_simp; (refine hK _ ?_; clear hK K))
            refine wpStill_nil ?_
            go_wp2_with fail
            have hgd : d ≠ g1 := fun e => HI1.out.live.kind HI1.out.kind (e ▸ Or.inl (Or.inl rfl))
            have hs4 : Save B w4 d p1.f [] := HI1.out.save.kept rfl rfl rfl (fun q hq => Hb4.out.block q (HI1.out.save.u8 hq).lt)
            refine (saveWrite_any B d nu cap1 ⟨g1, o1, none⟩ p1.f [] (b :: u) _ (by exact HL4.out.row) (by exact hs4.drewN _) HL4.out.mem.tab.lo.1 (by exact HL4.out.lo) Hnu.out (Ne.symm hgd) (fun j x hj => ?_) (by have := HI1.out.num; rw [Hnu.out] at this; simp; omega)).mono ?_
            · have hj' : j < (b :: u).length := by
                have := (List.getElem?_eq_some_iff.1 hj).1
                rwa [byteCells_len] at this
              rw [Lib.addr_add]
              refine ((HI1.out.buf.below Hb4.out).cell j hj').trans ?_
              rw [← hj, Lib.byteCells, List.getElem?_map, List.getElem?_eq_getElem hj']; rfl
            rintro e w5 ⟨rfl, f5, hr5, hs5, hf5, hb5, hk5⟩
            have Hr5 := Lib.hid hr5
            have Hs5 := Lib.hid hs5
            have Hf5 := Lib.hid hf5
            have Hb5 := Lib.hid hb5
            have Hk5 := Lib.hid hk5
            clear hs4 hr5 hs5 hf5 hb5 hk5
            go_wp2_with fail
            go_ret2
            rw [Hres.out]
            have hl : Live B w5 d M { s1 with first := s1.first } (l ++ out) { p1 with f := f5 } := HL4.out.put Hr5.out (fun i hi => Hf5.out i (Or.inl (by omega))) (by rw [Hf5.out 15 (Or.inr rfl)]; exact HL4.out.mem.first)
              (fun k hne ho => by exact keep_others Hk5.out (HL4.out.own_lt ho) hne fun hu => HL4.out.kind hu ho)
            have hk4 : Kept B (p.own d) w w4 := HI1.out.kept.step (Kept.of_below Hb4.out HI1.out.live.lo)
            refine ⟨⟨_, rfl, rfl⟩, { p1 with f := f5 }, hl, Hs5.out, HI1.out.own, hk4.step ⟨⟨Hb5.out.os, Hb5.out.tape, Hb5.out.output, Hb5.out.size, Hb5.out.block⟩, fun k hlt hn hu => by exact keep_others Hk5.out hlt (fun e => hn (e ▸ Or.inl (Or.inl rfl))) hu⟩, HI1.out.num⟩
          | bad er =>
            rw [hr] at hq Hres
            obtain ⟨⟨x, rfl, hx⟩, hb4⟩ := hq
            have hL4 := HI1.out.live.below hb4
            have hE4 := kE.below (hb4.mono HI1.out.live.lo)
            have k15 := hL4.row.cell' (i := 15) (by decide) hL4.mem.first
            have kfz := fun i => hL4.row.unfrozen i none
            have kN := hE4.eN
            obtain ⟨t, y, rfl, heq⟩ : ∃ t y, x = .iface t y ∧ (binOp .eql 64 (.iface t y) (.iface 121 (.pointer (some aN)))).run Tryd.prog w4 = .ok (.bool false) w4 := by
              cases er with
              | huff =>
                obtain rfl : x = _ := hx
                obtain ⟨-, ca, ta, h1⟩ := hE4.fI
                obtain ⟨-, cb, tb, h2⟩ := hE4.fN
                exact ⟨_, _, rfl, eql_other aI aN hE4.ne w4 h1 h2⟩
              | coding =>
                obtain ⟨a, rfl, -⟩ := hx
                exact ⟨_, _, rfl, eql_type _ _ w4⟩
              | index i =>
                obtain rfl : x = _ := hx
                exact ⟨_, _, rfl, eql_type _ _ w4⟩
            have HL4 := Lib.hid hL4
            have Hb4 := Lib.hid hb4
            have Hx := Lib.hid hx
            clear hL4 hE4 hb4 hr hx
            go_wp2_with fail
            go_ret2
            rw [Hres.out]
            have hdl := HI1.out.live.lt
            have hsz := HI1.out.kept.below.size
            have hl : Live B (w4.setCell ⟨d, 15, none⟩ (.bool false)) d M { s1 with first := false } (l ++ out) { p1 with f := putF p1.f 15 (.bool false) } := HL4.out.put (HL4.out.row.set 15 _) (fun i hi => by simp only [putF]; rw [if_neg (by omega)]) (by simp [putF]) (fun k hne _ => other_set (Ne.symm hne))
            have hs4 : Save B w4 d p1.f [] := HI1.out.save.kept rfl rfl rfl (fun q hq => Hb4.out.block q (HI1.out.save.u8 hq).lt)
            have hk4 : Kept B (p.own d) w w4 := HI1.out.kept.step (Kept.of_below Hb4.out HI1.out.live.lo)
            have hk5 : Kept B (p.own d) w4 (w4.setCell ⟨d, 15, none⟩ (.bool false)) := Kept.of_upd ((Upd.refl (p.own d) w4).setCell (a := ⟨d, 15, none⟩) (Or.inl (Or.inl (Or.inl rfl))) _) HL4.out.lo (fun k hk => by
              have : B ≤ k := HL.out.ge hk
              exact this)
            refine ⟨⟨_, rfl, Hx.out.move hsz fun k hk hlt => other_set (by omega)⟩, { p1 with f := putF p1.f 15 (.bool false) }, hl, hs4.kept rfl rfl rfl (fun q hq => other_set (fun e => hs4.ne (by rw [hq, e]))), HI1.out.own, hk4.step hk5, ?_⟩
            have := HI1.out.num
            simp at this ⊢
            omega
          | ok ents max o rest =>
            rw [hr] at hq Hres
            obtain ⟨rfl, p2, o2, cap2, hL4, hown, hf, h11, hb4, hu4, hn4⟩ := hq
            have hE4 := kE.below (hu4.below HI1.out.live.lo (fun k hk => HI1.out.live.ge hk))
            have k15 := hL4.row.cell' (i := 15) (by decide) hL4.mem.first
            have kfz := fun i => hL4.row.unfrozen i none
            have kN := hE4.eN
            have heq := eql_nil (.pointer (some aN)) w4
            have hlen := HD.pRepr_len hr
            have hnext := HS.out.next s1 (b :: u) ents max o rest HI1.out.good hr
            have HL4 := Lib.hid hL4
            have Hown := Lib.hid hown
            have Hf := Lib.hid hf
            have H11 := Lib.hid h11
            have Hb4 := Lib.hid hb4
            have Hu4 := Lib.hid hu4
            have Hn4 := Lib.hid hn4
            have Hlen := Lib.hid hlen
            have Hnext := Lib.hid hnext
            clear hL4 hE4 hr hown hf h11 hb4 hu4 hn4 hlen hnext
            go_wp2_with fail
            have hsz := HI1.out.kept.below.size
            have hlo1 := HI1.out.live.lo
            have hk4 : Kept B (p.own d) w w4 := HI1.out.kept.trans (Kept.of_upd Hu4.out hlo1 (fun k hk => HI1.out.live.ge hk)) (fun i hi hp => (HI1.out.own i hp).resolve_right (Nat.not_le.2 hi))
            have hk5 : Kept B (p.own d) w4 (w4.setCell ⟨d, 15, none⟩ (.bool false)) := Kept.of_upd ((Upd.refl (p.own d) w4).setCell (a := ⟨d, 15, none⟩) (Or.inl (Or.inl (Or.inl rfl))) _) HL4.out.lo (fun k hk => HL.out.ge hk)
            have hl : Live B (w4.setCell ⟨d, 15, none⟩ (.bool false)) d M { s1 with ents := ents, max := max, first := false } ((l ++ out) ++ o.toList) { p2 with f := putF p2.f 15 (.bool false) } := HL4.out.put (HL4.out.row.set 15 _) (fun i hi => by simp only [putF]; rw [if_neg (by omega)]) (by simp [putF]) (fun k hne _ => other_set (Ne.symm hne))
            have hgk : ∀ k, k ≠ d → IsU8 wr k → (w4.setCell ⟨d, 15, none⟩ (.bool false)).heap[k]? = wr.heap[k]? := fun k hne hu => (other_set (Ne.symm hne)).trans (Hu4.out.block k hu.lt (HI1.out.live.kind hu))
            have hgd : g1 ≠ d := fun e => HI1.out.live.kind HI1.out.kind (e ▸ Or.inl (Or.inl rfl))
            refine ⟨⟨_, out ++ o.toList, rest, { p2 with f := putF p2.f 15 (.bool false) }, g1, o2, cap2, k2, rfl, ⟨?_, ?_, Hres.out.symm, ?_, Hnext.out, ?_, ?_, HI1.out.kind.of_heap (hgk g1 hgd HI1.out.kind), ?_, hk4.step hk5, ?_, ?_⟩⟩, ?_⟩
            · rw [← List.append_assoc]; exact hl
            · exact HI1.out.save.kept (by simp [putF, Hf.out]) (by simp [putF, Hf.out]) (by simp [putF, Hf.out]) (fun q hq => hgk q (fun e => HI1.out.save.ne (by rw [hq, e])) (HI1.out.save.u8 hq))
            · have h1 := HI1.out.fuel
              have h2 := Hlen.out
              simp at h1 h2
              omega
            · simp [putF, H11.out]
            · exact Hb4.out.kept fun _ => other_set (Ne.symm hgd)
            · exact fun k hk => (Hown.out k hk).elim (HI1.out.own k) (fun h => Or.inr (Nat.le_trans hsz h))
            · have h1 := HI1.out.num
              have h2 := Hn4.out
              have h3 := Hlen.out
              simp at h1 h2 h3 ⊢
              omega
            · have h1 := HI1.out.tot
              have h3 := Hlen.out
              have ho : o.toList.length ≤ 1 := by cases o <;> simp
              simp only [List.length_append, List.length_cons] at h1 h3 ⊢
              omega
            · rw [cellLen_eq (hl.row.cell' (i := 11) (v := .slice (some ⟨g1, o2, none⟩) rest.length cap2) (by decide) (by simp [putF, H11.out])), cellLen_eq (HI1.out.live.row.cell' (i := 11) (by decide) HI1.out.sl)]
              exact Hlen.out
end Go.Proofs.YtlkpeeoippbdoaaDoor
