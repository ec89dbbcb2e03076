/-
  Texts of this seat, one behind the other: DecLaw, Decode, Text, HText. What each one shows stands at its head. No condition.
-/
import Derived.Test.YtlkpeeoippbdoaaDoorMg3
import Derived.Lib.BufferOld
import Derived.Deep.Cut
import Derived.LaidEql
/-
  PLAIN: how the decoder's number of pending bits goes with the bits themselves.
-/
namespace Go.Proofs.YtlkpeeoippbdoaaDoor.HP

theorem split_bits {q : List Bool} (cl : Nat) {m : Nat} (hq : q.length = m + cl) : ofBits q = ofBits (q.take cl) * 2 ^ m + ofBits (q.drop cl) := by
  have e : ofBits (q.take cl ++ q.drop cl) = ofBits (q.take cl) * 2 ^ (q.drop cl).length + ofBits (q.drop cl) := ofBits_append _ _
  rw [List.take_append_drop, List.length_drop, hq, Nat.add_sub_cancel] at e
  exact e

theorem low_bits {C m cl : Nat} {q : List Bool} (hq : q.length = m + cl) (hC : C % 2 ^ (m + cl) = ofBits q) : C % 2 ^ m = ofBits (q.drop cl) := by
  have h1 := split_bits cl hq
  have h2 : ofBits (q.drop cl) < 2 ^ m := by
    have := ofBits_lt (q.drop cl)
    rw [List.length_drop, hq, Nat.add_sub_cancel] at this
    exact this
  have h3 : C % 2 ^ m = C % 2 ^ (m + cl) % 2 ^ m := by
    rw [Nat.mod_mod_of_dvd _ (Nat.pow_dvd_pow 2 (Nat.le_add_right m cl))]
  rw [h3, hC, h1, Nat.mul_comm, Nat.mul_add_mod, Nat.mod_eq_of_lt h2]

theorem top8 {C m : Nat} {q : List Bool} (hq : q.length = m + 8) (hC : C % 2 ^ (m + 8) = ofBits q) : C / 2 ^ m % 256 = ofBits (q.take 8) := by
  have h1 := split_bits 8 hq
  have h2 : ofBits (q.drop 8) < 2 ^ m := by
    have := ofBits_lt (q.drop 8)
    rw [List.length_drop, hq, Nat.add_sub_cancel] at this
    exact this
  have h3 : C / 2 ^ m % 256 = C % 2 ^ (m + 8) / 2 ^ m := by
    rw [Nat.pow_add, Nat.mod_mul_right_div_self]
  rw [h3, hC, h1, Nat.mul_comm, Nat.mul_add_div (Nat.two_pow_pos m), Nat.div_eq_of_lt h2, Nat.add_zero]

theorem ofBits_zeros (j : Nat) : ofBits (List.replicate j false) = 0 := by
  induction j with
  | zero => rfl
  | succ j ih => rw [List.replicate_succ, ofBits_cons, ih]; simp

theorem pad_bits {C m : Nat} {q : List Bool} (_hq : q.length = m) (hm : m ≤ 8) (hC : C % 2 ^ m = ofBits q) : C * 2 ^ (8 - m) % 256 = ofBits (q ++ List.replicate (8 - m) false) := by
  rw [ofBits_append, ofBits_zeros, List.length_replicate, Nat.add_zero, ← hC, ← Nat.mul_mod_mul_right, ← Nat.pow_add, Nat.add_sub_of_le hm]

theorem ones_bits (m : Nat) : ofBits (List.replicate m true) = 2 ^ m - 1 := by
  rw [← bitsOf_ones, ofBits_bitsOf, Nat.mod_eq_of_lt (by have := Nat.two_pow_pos m; omega)]

theorem all_ones {C m : Nat} {q : List Bool} (hq : q.length = m) (hC : C % 2 ^ m = ofBits q) : C % 2 ^ m = 2 ^ m - 1 ↔ q.all id = true := by
  rw [hC, ← ones_bits]
  constructor
  · intro h
    have := ofBits_inj (by rw [hq, List.length_replicate]) h
    rw [this]; simp
  · intro h
    have : q = List.replicate m true := by
      rw [← hq, List.eq_replicate_iff]
      exact ⟨rfl, fun b hb => by simpa using List.all_eq_true.1 h b hb⟩
    rw [← this]

theorem pl_le : ∀ k, k < 15 → pl k ≤ 24 := by decide
theorem leaf_cl {k i s cl : Nat} (h : tab k i = .leaf s cl) : s < 256 ∧ 1 ≤ cl ∧ cl ≤ 8 ∧ (hlen s - 1) % 8 + 1 = cl := by
  obtain ⟨h1, h2, h3, _, h4, _⟩ := leaf_ok h
  have e : pl k = 8 * (pathL.getD k []).length := rfl
  exact ⟨h1, h2, h3, by omega⟩
end Go.Proofs.YtlkpeeoippbdoaaDoor.HP
/-
  The contract of huffmanDecode, without a bound on the text's length: it answers as the plain decoder does.
-/
namespace Go.Proofs.YtlkpeeoippbdoaaDoor
open Go.ChangeShapes Go.WideShapes Go.ChangeAt Go.RowKit

/-- The bytes that a call reads: a slice's, below block B. -/
def Src (B : Nat) (sa : Option Addr) (v : List UInt8) (w : World) : Prop := v ≠ [] → ∃ g o, sa = some ⟨g, o, none⟩ ∧ g < B ∧ ∀ i (h : i < v.length), w.cell? ⟨g, o + i, none⟩ = some (.int .u8 (v[i].toNat : Nat))

theorem Src.below {B : Nat} {sa : Option Addr} {v : List UInt8} {w w' : World} (h : Src B sa v w) (hb : Below B w w') : Src B sa v w' := fun hv => by
  obtain ⟨g, o, e, hg, hc⟩ := h hv
  exact ⟨g, o, e, hg, fun i hi => (hb.cell (p := ⟨g, o + i, none⟩) hg).trans (hc i hi)⟩

abbrev IsBuf (B b : Nat) (t : List UInt8) (w : World) : Prop := Lib.IsBuffer 80 5 B b (Lib.byteCells t) w

/-- How the decoder ends. -/
def DecEnds (B b : Nat) (ev : Value) : Option (List UInt8) → Ending → World → Prop
  | some t, e, w' => e = .returned .nilIface ∧ IsBuf B b t w'
  | none, e, w' => e = .returned ev ∧ ∃ t, IsBuf B b t w'

theorem leafV_done {s : Nat} (hs : s < 256) : leafV 256 (s * 3) = .pointer none ∧ leafV 256 (s * 3 + 1) = .int .u8 (cl8 s : Nat) ∧ leafV 256 (s * 3 + 2) = .int .u8 (s : Nat) := by
  have e1 : (s * 3 + 1) / 3 = s := by omega
  have e2 : (s * 3 + 2) / 3 = s := by omega
  unfold leafV
  refine ⟨by rw [if_pos (by omega)], ?_, ?_⟩
  · rw [if_neg (by omega), if_pos (by omega), if_pos (by omega), e1]
  · rw [if_neg (by omega), if_pos (by omega), if_neg (by omega), e2]

theorem byteCells_snoc (l : List UInt8) {s : Nat} (hs : s < 256) : Lib.byteCells l ++ [.int .u8 (s : Nat)] = Lib.byteCells (l ++ [UInt8.ofNat s]) := by
  simp [Lib.byteCells]
  omega
theorem byteCells_len (l : List UInt8) : (Lib.byteCells l).length = l.length := Lib.byteCells_length l

theorem feed_step {f kk : Nat} {l : List Bool} {out : List UInt8} (h8 : 8 ≤ l.length) (hf : l.length ≤ f + 7) : ∃ f', f = f' + 1 ∧ HP.feed f ⟨kk, l, out⟩ = (match HP.tab kk (HP.ofBits (l.take 8)) with
      | .none => none
      | .leaf s cl => HP.feed f' ⟨0, l.drop cl, out ++ [UInt8.ofNat s]⟩
      | .inner k' => HP.feed f' ⟨k', l.drop 8, out⟩) := by
  cases f with
  | zero => omega
  | succ f' =>
    refine ⟨f', rfl, ?_⟩
    rw [HP.feed, if_neg (show ¬ l.length < 8 by omega)]
    rfl
theorem feed_done {f kk : Nat} {l : List Bool} {out : List UInt8} (h8 : l.length < 8) : HP.feed f ⟨kk, l, out⟩ = some ⟨kk, l, out⟩ := by
  cases f with
  | zero => rfl
  | succ f' => rw [HP.feed, if_pos h8]

theorem fin_step {f kk : Nat} {l : List Bool} {out : List UInt8} (h0 : 0 < l.length) (hf : l.length ≤ f) : ∃ f', f = f' + 1 ∧ HP.fin f ⟨kk, l, out⟩ = (match HP.tab kk (HP.ofBits (l ++ List.replicate (8 - l.length) false)) with
      | .none => none
      | .inner _ => some ⟨kk, l, out⟩
      | .leaf s cl => if l.length < cl then some ⟨kk, l, out⟩ else HP.fin f' ⟨0, l.drop cl, out ++ [UInt8.ofNat s]⟩) := by
  cases f with
  | zero => omega
  | succ f' =>
    refine ⟨f', rfl, ?_⟩
    rw [HP.fin, if_neg (show ¬ l = [] by intro h; rw [h] at h0; cases h0)]
    rfl
theorem fin_done {f kk : Nat} {l : List Bool} {out : List UInt8} (h0 : l.length = 0) : HP.fin f ⟨kk, l, out⟩ = some ⟨kk, l, out⟩ := by
  cases f with
  | zero => rfl
  | succ f' => rw [HP.fin, if_pos (List.eq_nil_of_length_eq_zero h0)]
theorem pad_index {C m x : Nat} (h : C * 2 ^ (8 - m) % 256 = x) : IntKind.u64.wrap ((C : Int) * 2 ^ (8 - m)) % 256 = (x : Int) := by
  have e : IntKind.u64.wrap ((C : Int) * 2 ^ (8 - m)) = ((C * 2 ^ (8 - m) % 2 ^ 64 : Nat) : Int) := by
    simp [IntKind.wrap, IntKind.bits, IntKind.signed]
  have e2 : C * 2 ^ (8 - m) % 2 ^ 64 % 256 = x := by rw [Nat.mod_mod_of_dvd _ (by decide), h]
  rw [e]
  omega

theorem mask_is : ∀ m, m < 8 → IntKind.u64.wrap (IntKind.u64.wrap ((2 : Int) ^ m) - 1) = ((2 ^ m - 1 : Nat) : Int) := by decide
theorem mask_test {C m : Nat} {l : List Bool} (hC : C < 2 ^ 64) (hm : m < 8) (hl : l.length = m) (hCl : C % 2 ^ m = HP.ofBits l) {r : Bool} (hr : l.all id = r) :
    (bits BinOp.and IntKind.u64 (C : Int) (IntKind.u64.wrap (IntKind.u64.wrap (2 ^ m) - 1)) != IntKind.u64.wrap (IntKind.u64.wrap (2 ^ m) - 1)) = !r := by
  have h2 : 2 ^ m - 1 < 2 ^ 64 := by
    have : (2 : Nat) ^ m ≤ 2 ^ 8 := Nat.pow_le_pow_right (by decide) (by omega)
    omega
  have ha := HP.all_ones hl hCl
  rw [mask_is m hm, bits_and_u64_nat _ _ hC h2, Nat.and_two_pow_sub_one_eq_mod, ← hr]
  by_cases h : l.all id = true
  · rw [h, ha.2 h]; simp
  · have hne : ¬ C % 2 ^ m = 2 ^ m - 1 := fun e => h (ha.1 e)
    rw [Bool.not_eq_true] at h
    rw [h]
    simp only [bne_iff_ne, ne_eq, Bool.not_false]
    exact fun e => hne (by exact_mod_cast e)
theorem mask_zero {C : Nat} (hC : C < 2 ^ 64) : (bits BinOp.and IntKind.u64 (C : Int) 0 != 0) = false := by
  have h := bits_and_u64_nat C 0 hC (by decide)
  rw [show ((0 : Nat) : Int) = 0 from rfl, Nat.and_zero] at h
  rw [h]; rfl

set_option maxRecDepth 100000 in
set_option maxHeartbeats 1000000 in
theorem decode_any (B b cap : Nat) (sa : Option Addr) (v : List UInt8) (ev : Value) (w : World) (hv : v.length ≤ 134217728) (hb : IsBuf B b [] w) (hB : B ≤ w.heap.size) (hsrc : Src B sa v w)
    (hl : LenTab w) (hc : CodeTab w) (he : w.cell? ⟨0, 0, none⟩ = some ev) (hG : 0 < B) :
    Calls Tryd.prog 38 #[.pointer (some ⟨b, 0, none⟩), .int .i64 0, .slice sa v.length cap] w fun e w' =>
      DecEnds B b ev (HP.hdec v) e w' ∧ Below B w w' := by
  have Hl := Lib.hid hl
  have Hc := Lib.hid hc
  have Hb := Lib.hid hb
  have Hsrc := Lib.hid hsrc
  have He := Lib.hid he
  clear hl hc hb hsrc he
  go_enter Tryd.func38, Tryd.ntmps38
  go_wp2_with fail
  refine (tree_any w Hl.out Hc.out).mono ?_
  rintro e w1 ⟨rfl, hm, hbel⟩
  have HT := Lib.hid hm.at
  have HB1 := Lib.hid (Below.mono hbel hB)
  have Hb1 := Lib.hid (Hb.out.old hbel)
  have hbN : b < w.heap.size := Hb.out.lt
  have hw1 : w.heap.size ≤ w1.heap.size := hbel.size
  rw [show (w.heap.size + 1 : Nat) = nodeB w.heap.size 0 from rfl]
  generalize hN : w.heap.size = N at *
  clear hm hbel Hb Hl Hc
  go_wp2_with fail
  go_loopw [8, 9, 10, 11, 20] (fun p c q sb i wr => ∃ (k kk C : Nat) (l : List Bool) (out : List UInt8), k ≤ v.length ∧ i = .int .i64 k ∧ p = .pointer (some ⟨nodeB N kk, 0, none⟩) ∧ c = .int .u64 C ∧ C < 2 ^ 64 ∧ q = .int .u8 (l.length : Nat) ∧ sb = .int .u8 ((HP.pl kk + l.length : Nat)) ∧ l.length < 8 ∧ kk < 15 ∧ C % 2 ^ l.length = HP.ofBits l ∧ HP.feedAll v ⟨0, [], []⟩ = HP.feedAll (v.drop k) ⟨kk, l, out⟩ ∧ out.length + l.length ≤ 8 * k ∧ IsBuf B b out wr ∧ Below B w wr ∧ TreeAt N wr) (fun _ _ _ _ i _ => v.length - (intOf i).toNat)
  case atStart => exact ⟨0, 0, 0, [], [], Nat.zero_le _, rfl, rfl, rfl, by decide, rfl, rfl, by decide, by decide, rfl, by rw [List.drop_zero], Nat.zero_le _, Hb1.out, HB1.out, HT.out⟩
  case round =>
    obtain ⟨k, kk, C, l, out, hk, rfl, rfl, rfl, hC, rfl, rfl, hl8, hkk, hCl, hfeed, hout, hbuf, hbel, htree⟩ := hrel
    have HCl := Lib.hid hCl
    have Hfeed := Lib.hid hfeed
    have Hbuf := Lib.hid hbuf
    have Hbel := Lib.hid hbel
    have Htree := Lib.hid htree
    have hpl := HP.pl_le kk hkk
    clear hCl hfeed hbuf hbel htree HT HB1 Hb1
    by_cases hlt : k < v.length
    · have hne : v ≠ [] := by intro h; rw [h] at hlt; cases hlt
      obtain ⟨g, off, rfl, hg, hcell⟩ := (Hsrc.out.below Hbel.out) hne
      have hby := hcell k hlt
      have h256 : v[k].toNat < 256 := by simpa using v[k].toNat_lt
      have hdrop : v.drop k = v[k] :: v.drop (k + 1) := List.drop_eq_getElem_cons hlt
      have HX : Hid (HP.stepX C 8 v[k].toNat % 2 ^ (l.length + 8) = HP.ofBits (l ++ HP.bits8 v[k])) := HP.stepX_bits (L := 8) (C := v[k].toNat) rfl HCl.out h256 (by omega)
      have HXlt := Lib.hid (HP.stepX_lt (X := C) (L := 8) (C := v[k].toNat) (by decide) h256)
      have hor := or_step (X := C) (L := 8) (C := v[k].toNat) (by decide) h256
      have Hf2 := Hfeed.out
      rw [hdrop, HP.feedAll] at Hf2
      dsimp only at Hf2
      have Hf3 := Lib.hid Hf2
      have Hb8 : Hid ((l ++ HP.bits8 v[k]).length = l.length + 8) := by show (l ++ HP.bits8 v[k]).length = _; rw [List.length_append, HP.length_bits8]
      clear hcell hdrop Hf2 Hfeed
      generalize hplk : HP.pl kk = plk at *
      have Hplk := Lib.hid hplk
      clear hplk
      generalize l.length = m at *
      generalize v[k].toNat = bt at *
      generalize hsX : HP.stepX C 8 bt = X at *
      have hx : bits BinOp.or IntKind.u64 (IntKind.u64.wrap ((C : Int) * 256)) (bt : Int) = (X : Int) := by
        have e : IntKind.u64.wrap (bt : Int) = bt := by simp [IntKind.wrap, IntKind.bits, IntKind.signed]; omega
        rw [e] at hor
        exact hor
      clear hor
      go_wp2_with fail
      generalize hF : HP.feed (m + 8) ⟨kk, l ++ HP.bits8 v[k], out⟩ = F at Hf3
      have HF := Lib.hid hF
      clear hF hx
      generalize l ++ HP.bits8 v[k] = l0 at *
      generalize IntKind.u64.wrap ((C : Int) * 256) = wr256
      rw [Int.natCast_add plk m]
      go_loopw [8, 10, 11] (fun p q sb wr => ∃ (f kk : Nat) (l : List Bool) (out : List UInt8), p = .pointer (some ⟨nodeB N kk, 0, none⟩) ∧ q = .int .u8 (l.length : Nat) ∧ sb = .int .u8 ((HP.pl kk + l.length : Nat)) ∧ l.length ≤ 15 ∧ kk < 15 ∧ X % 2 ^ l.length = HP.ofBits l ∧ HP.feed f ⟨kk, l, out⟩ = F ∧ l.length ≤ f + 7 ∧ out.length + l.length ≤ 8 * (k + 1) ∧ IsBuf B b out wr ∧ Below B w wr ∧ TreeAt N wr) (fun _ q _ _ => (intOf q).toNat)
      case atStart =>
        have e8 := Hb8.out
        exact ⟨m + 8, kk, l0, out, rfl, by rw [e8]; go_num, by rw [e8, Hplk.out]; go_num, by omega, hkk, by rw [e8]; exact HX.out, HF.out, by omega, by omega, Hbuf.out, Hbel.out, Htree.out⟩
      case round =>
        obtain ⟨f, kk, l, out, rfl, rfl, rfl, hl15, hkk, hXl, hfe, hlf, hout, hbuf, hbel, htree⟩ := hrel
        have HXl := Lib.hid hXl
        have Hfe := Lib.hid hfe
        have Hbuf := Lib.hid hbuf
        have Hbel := Lib.hid hbel
        have Htree := Lib.hid htree
        have hpl := HP.pl_le kk hkk
        clear hXl hfe hbuf hbel htree
        by_cases h8 : 8 ≤ l.length
        · obtain ⟨f', rfl, hfs⟩ := feed_step (kk := kk) (out := out) h8 hlf
          obtain ⟨m', hm'⟩ : ∃ m', l.length = m' + 8 := ⟨l.length - 8, by omega⟩
          have htop := HP.top8 hm' (by rw [← hm']; exact HXl.out)
          have hx256 : HP.ofBits (l.take 8) < 256 := HP.ofBits8_lt (by omega)
          have hfe := Hfe.out
          rw [hfs] at hfe
          clear hfs Hfe
          have hn := (Htree.out.node kk hkk).cell' (i := 0) (by decide) (show nodeV N kk 0 = .pointer (some ⟨rowB N kk, 0, none⟩) from rfl)
          have hr := (Htree.out.row kk hkk).cell hx256
          have htb : HP.tab kk (HP.ofBits (l.take 8)) = HP.tab kk (HP.ofBits (l.take 8)) := rfl
          generalize HP.ofBits (l.take 8) = x at *
          have hti : (X : Int) / 2 ^ m' % 256 = (x : Int) := by rw [← htop]; simp
          have hxI : (x : Int) < 256 := by omega
          clear htop htb
          rw [hm']
          have Hm' := Lib.hid hm'
          have hlow : ∀ cl, cl ≤ 8 → (l.drop cl).length = m' + 8 - cl ∧ X % 2 ^ (m' + 8 - cl) = HP.ofBits (l.drop cl) := fun cl hcl => ⟨by rw [List.length_drop, Hm'.out], HP.low_bits (m := m' + 8 - cl) (cl := cl) (by rw [Hm'.out]; omega) (by rw [show m' + 8 - cl + cl = l.length by rw [Hm'.out]; omega]; exact HXl.out)⟩
          have Hlow := Lib.hid hlow
          rw [hm'] at hl15 hlf hout
          clear hlow hm' h8
          go_upto_region 12 with (fail)
          rw [hti]
          cases ht : HP.tab kk x with
          | none =>
            rw [ht] at hr hfe
            rw [show entV N .none = .pointer none from rfl] at hr
            have he2 := (Hbel.out.cell (p := ⟨0, 0, none⟩) hG).trans He.out
            have hd : HP.hdec v = none := by unfold HP.hdec; rw [Hf3.out, ← hfe]
            have Hd := Lib.hid hd
            clear ht hfe hd
            go_wp2_with fail
            go_ret
            exact ⟨by rw [Hd.out]; exact ⟨rfl, _, Hbuf.out⟩, Hbel.out⟩
          | inner k' =>
            rw [ht] at hr hfe
            obtain ⟨_, hk', _, hplk', _⟩ := HP.inner_ok ht
            rw [show entV N (.inner k') = .pointer (some ⟨nodeB N k', 0, none⟩) from rfl] at hr
            have hn' := (Htree.out.node k' hk').cell' (i := 0) (by decide) (show nodeV N k' 0 = .pointer (some ⟨rowB N k', 0, none⟩) from rfl)
            have Hfe := Lib.hid hfe
            have Hplk' := Lib.hid hplk'
            clear ht hfe hplk'
            go_wp2_with fail
            obtain ⟨e1, e2⟩ := Hlow.out 8 (by omega)
            rw [Nat.add_sub_cancel] at e1 e2
            exact ⟨⟨f', k', l.drop 8, out, rfl, by rw [e1], by rw [e1, Hplk'.out]; go_num, by omega, hk', by rw [e1]; exact e2, Hfe.out, by omega, by omega, Hbuf.out, Hbel.out, Htree.out⟩, by simp [intOf]; omega⟩
          | leaf s cl =>
            rw [ht] at hr hfe
            obtain ⟨hs, hcl1, hcl8, hcl⟩ := HP.leaf_cl ht
            obtain ⟨v0, v1, v2⟩ := leafV_done hs
            rw [show entV N (.leaf s cl) = .pointer (some ⟨N + 2, s * 3, none⟩) from rfl] at hr
            have c0 := Htree.out.leaves.cell' (i := s * 3) (by omega) v0
            have c2 := Htree.out.leaves.cell' (i := s * 3 + 2) (by omega) v2
            have Hfe := Lib.hid hfe
            have Hcl := Lib.hid hcl
            have Hv1 := Lib.hid v1
            clear ht hfe v0 v1 v2 hcl
            go_wp2_with fail
            refine (Buffer_WriteByte B b _ s _ Hbuf.out (by have := Hbel.out.size; omega) (Lib.byteCells_one _) (by rw [byteCells_len]; omega)).mono ?_
            rintro e w2 ⟨rfl, hb2, hbel2, hk2⟩
            rw [byteCells_snoc out hs] at hb2
            have Hb2 := Lib.hid hb2
            have Hbel2 := Lib.hid (Hbel.out.trans hbel2)
            have Htree2 := Lib.hid (Htree.out.kept hk2 (by omega))
            have c1 := Htree2.out.leaves.cell' (i := s * 3 + 1) (by omega) Hv1.out
            rw [show cl8 s = cl from Hcl.out] at c1
            clear hb2 hbel2 hk2 c0 c2 hr hn Hbuf Hbel Htree
            go_wp2_with fail
            obtain ⟨e1, e2⟩ := Hlow.out cl hcl8
            exact ⟨⟨f', 0, l.drop cl, out ++ [UInt8.ofNat s], rfl, by rw [e1]; go_num, by rw [e1, HP.pl_zero]; go_num, by rw [e1]; omega, by omega, by rw [e1]; exact e2, Hfe.out, by rw [e1]; omega, by rw [List.length_append, e1, List.length_singleton]; omega, Hb2.out, Hbel2.out, Htree2.out⟩, by simp [intOf]; omega⟩
        · have hfd := Hfe.out
          rw [feed_done (by omega)] at hfd
          have Hfd := Lib.hid hfd
          clear hfd
          go_wp2_with fail
          exact ⟨⟨k + 1, kk, X, l, out, by omega, by go_num, rfl, rfl, HXlt.out, rfl, rfl, by omega, hkk, HXl.out, by rw [Hf3.out, ← Hfd.out], by omega, Hbuf.out, Hbel.out, Htree.out⟩, by simp [intOf]; omega⟩
    · obtain rfl : k = v.length := by omega
      have Hf4 : Hid (HP.feedAll v ⟨0, [], []⟩ = some ⟨kk, l, out⟩) := by
        have := Hfeed.out
        rw [List.drop_length, HP.feedAll] at this
        exact this
      clear Hfeed
      have hdc : HP.hdec v = (match HP.fin l.length ⟨kk, l, out⟩ with
          | none => none
          | some st' => if 7 < HP.pl st'.k + st'.q.length then none else if st'.q.all id then some st'.out else none) := by
        unfold HP.hdec; rw [Hf4.out]; rfl
      have Hdc := Lib.hid hdc
      clear hdc
      have hout8 : out.length + l.length ≤ 1073741824 := by omega
      go_wp2_with fail
      generalize hF : HP.fin l.length ⟨kk, l, out⟩ = F at Hdc
      have HF := Lib.hid hF
      clear hF
      go_loopw [8, 10, 11] (fun p q sb wr => ∃ (f kk : Nat) (l : List Bool) (out : List UInt8), p = .pointer (some ⟨nodeB N kk, 0, none⟩) ∧ q = .int .u8 (l.length : Nat) ∧ sb = .int .u8 ((HP.pl kk + l.length : Nat)) ∧ l.length < 8 ∧ kk < 15 ∧ C % 2 ^ l.length = HP.ofBits l ∧ HP.fin f ⟨kk, l, out⟩ = F ∧ l.length ≤ f ∧ out.length + l.length ≤ 1073741824 ∧ IsBuf B b out wr ∧ Below B w wr ∧ TreeAt N wr) (fun _ q _ _ => (intOf q).toNat)
      case atStart => exact ⟨l.length, kk, l, out, rfl, rfl, rfl, hl8, hkk, HCl.out, HF.out, Nat.le_refl _, hout8, Hbuf.out, Hbel.out, Htree.out⟩
      case round =>
        clear hpl hout8 hout hl8 hkk
        obtain ⟨f, kk, l, out, rfl, rfl, rfl, hl8, hkk, hXl, hfe, hlf, hout, hbuf, hbel, htree⟩ := hrel
        have HXl := Lib.hid hXl
        have Hfe := Lib.hid hfe
        have Hbuf := Lib.hid hbuf
        have Hbel := Lib.hid hbel
        have Htree := Lib.hid htree
        have hpl := HP.pl_le kk hkk
        have he2 := (Hbel.out.cell (p := ⟨0, 0, none⟩) hG).trans He.out
        clear hXl hfe hbuf hbel htree
        by_cases h0 : 0 < l.length
        · have hn := (Htree.out.node kk hkk).cell' (i := 0) (by decide) (show nodeV N kk 0 = .pointer (some ⟨rowB N kk, 0, none⟩) from rfl)
          obtain ⟨f', rfl, hfs⟩ := fin_step (kk := kk) (out := out) h0 hlf
          have hfe := Hfe.out
          rw [hfs] at hfe
          clear hfs Hfe
          have hpb := HP.pad_bits rfl (by omega) HXl.out
          have hx256 : HP.ofBits (l ++ List.replicate (8 - l.length) false) < 256 := by rw [← hpb]; exact Nat.mod_lt _ (by decide)
          have hti := pad_index hpb
          have hr := (Htree.out.row kk hkk).cell hx256
          generalize HP.ofBits (l ++ List.replicate (8 - l.length) false) = x at *
          have hxI : (x : Int) < 256 := by omega
          clear hpb
          have hlow : ∀ cl, cl ≤ l.length → (l.drop cl).length = l.length - cl ∧ C % 2 ^ (l.length - cl) = HP.ofBits (l.drop cl) := fun cl hcl => ⟨by rw [List.length_drop], HP.low_bits (m := l.length - cl) (cl := cl) (by omega) (by rw [show l.length - cl + cl = l.length by omega]; exact HXl.out)⟩
          have Hlow := Lib.hid hlow
          clear hlow
          generalize hm : l.length = m at *
          have Hm := Lib.hid hm
          clear hm
          cases ht : HP.tab kk x with
          | none =>
            rw [ht] at hr hfe
            rw [show entV N .none = .pointer none from rfl] at hr
            have hd : HP.hdec v = none := by rw [Hdc.out, ← hfe]
            have Hd := Lib.hid hd
            clear ht hfe hd
            go_wp2_with fail
            go_ret
            exact ⟨by rw [Hd.out]; exact ⟨rfl, _, Hbuf.out⟩, Hbel.out⟩
          | inner k' =>
            rw [ht] at hr hfe
            obtain ⟨_, hk', _, _, _⟩ := HP.inner_ok ht
            rw [show entV N (.inner k') = .pointer (some ⟨nodeB N k', 0, none⟩) from rfl] at hr
            have hn' := (Htree.out.node k' hk').cell' (i := 0) (by decide) (show nodeV N k' 0 = .pointer (some ⟨rowB N k', 0, none⟩) from rfl)
            have Hfin : Hid (HP.hdec v = if 7 < HP.pl kk + m then none else if l.all id then some out else none) := by
              show HP.hdec v = _
              rw [Hdc.out, ← hfe, ← Hm.out]
            clear ht hfe
            by_cases h7 : 7 < HP.pl kk + m
            · go_wp2_with fail
              go_ret
              exact ⟨by rw [Hfin.out, if_pos h7]; exact ⟨rfl, _, Hbuf.out⟩, Hbel.out⟩
            · by_cases hall : l.all id = true
              · have hmk := mask_test hC hl8 Hm.out HXl.out hall
                go_wp2_with fail
                go_ret
                exact ⟨by rw [Hfin.out, if_neg h7, if_pos hall]; exact ⟨rfl, Hbuf.out⟩, Hbel.out⟩
              · have hmk := mask_test hC hl8 Hm.out HXl.out (Bool.not_eq_true _ ▸ hall)
                go_wp2_with fail
                go_ret
                exact ⟨by rw [Hfin.out, if_neg h7, if_neg hall]; exact ⟨rfl, _, Hbuf.out⟩, Hbel.out⟩
          | leaf s cl =>
            rw [ht] at hr hfe
            obtain ⟨hs, hcl1, hcl8, hcl⟩ := HP.leaf_cl ht
            obtain ⟨v0, v1, v2⟩ := leafV_done hs
            rw [show cl8 s = cl from hcl] at v1
            rw [show entV N (.leaf s cl) = .pointer (some ⟨N + 2, s * 3, none⟩) from rfl] at hr
            have c0 := Htree.out.leaves.cell' (i := s * 3) (by omega) v0
            have c1 := Htree.out.leaves.cell' (i := s * 3 + 1) (by omega) v1
            have c2 := Htree.out.leaves.cell' (i := s * 3 + 2) (by omega) v2
            have Hv1 := Lib.hid v1
            clear ht v0 v1 v2 hcl
            by_cases hmc : m < cl
            · have Hfin : Hid (HP.hdec v = if 7 < HP.pl kk + m then none else if l.all id then some out else none) := by
                show HP.hdec v = _
                dsimp only at hfe
                rw [if_pos hmc] at hfe
                rw [Hdc.out, ← hfe, ← Hm.out]
              clear hfe
              by_cases h7 : 7 < HP.pl kk + m
              · go_wp2_with fail
                go_ret
                exact ⟨by rw [Hfin.out, if_pos h7]; exact ⟨rfl, _, Hbuf.out⟩, Hbel.out⟩
              · by_cases hall : l.all id = true
                · have hmk := mask_test hC hl8 Hm.out HXl.out hall
                  go_wp2_with fail
                  go_ret
                  exact ⟨by rw [Hfin.out, if_neg h7, if_pos hall]; exact ⟨rfl, Hbuf.out⟩, Hbel.out⟩
                · have hmk := mask_test hC hl8 Hm.out HXl.out (Bool.not_eq_true _ ▸ hall)
                  go_wp2_with fail
                  go_ret
                  exact ⟨by rw [Hfin.out, if_neg h7, if_neg hall]; exact ⟨rfl, _, Hbuf.out⟩, Hbel.out⟩
            · dsimp only at hfe
              rw [if_neg hmc] at hfe
              have Hfe := Lib.hid hfe
              clear hfe
              go_wp2_with fail
              refine (Buffer_WriteByte B b _ s _ Hbuf.out (by have := Hbel.out.size; omega) (Lib.byteCells_one _) (by rw [byteCells_len]; omega)).mono ?_
              rintro e w2 ⟨rfl, hb2, hbel2, hk2⟩
              rw [byteCells_snoc out hs] at hb2
              have Hb2 := Lib.hid hb2
              have Hbel2 := Lib.hid (Hbel.out.trans hbel2)
              have Htree2 := Lib.hid (Htree.out.kept hk2 (by omega))
              have c1' := Htree2.out.leaves.cell' (i := s * 3 + 1) (by omega) Hv1.out
              clear hb2 hbel2 hk2 c0 c1 c2 hr hn Hbuf Hbel Htree he2
              go_wp2_with fail
              obtain ⟨e1, e2⟩ := Hlow.out cl (by omega)
              exact ⟨⟨f', 0, l.drop cl, out ++ [UInt8.ofNat s], rfl, by rw [e1]; go_num, by rw [e1, HP.pl_zero]; go_num, by rw [e1]; omega, by omega, by rw [e1]; exact e2, Hfe.out, by rw [e1]; omega, by rw [List.length_append, e1, List.length_singleton]; omega, Hb2.out, Hbel2.out, Htree2.out⟩, by simp [intOf]; omega⟩
        · have hl0 : l.length = 0 := by omega
          have hfe := Hfe.out
          rw [fin_done hl0] at hfe
          have hall : l.all id = true := by rw [List.eq_nil_of_length_eq_zero hl0]; rfl
          have Hfin : Hid (HP.hdec v = if 7 < HP.pl kk + l.length then none else if l.all id then some out else none) := by
            show HP.hdec v = _
            rw [Hdc.out, ← hfe]
          clear hfe Hfe
          rw [hl0]
          rw [hl0, Nat.add_zero] at Hfin
          have hmk := mask_zero hC
          by_cases h7 : 7 < HP.pl kk
          · go_wp2_with fail
            go_ret
            exact ⟨by rw [Hfin.out, if_pos h7]; exact ⟨rfl, _, Hbuf.out⟩, Hbel.out⟩
          · go_wp2_with fail
            go_ret
            exact ⟨by rw [Hfin.out, if_neg h7, if_pos hall]; exact ⟨rfl, Hbuf.out⟩, Hbel.out⟩
#print axioms decode_any
end Go.Proofs.YtlkpeeoippbdoaaDoor
/-
  Contracts of HuffmanDecodeToString, codeOf and HuffmanText.
-/
namespace Go.Proofs.YtlkpeeoippbdoaaDoor
open Go.ChangeShapes Go.WideShapes Go.ChangeAt Go.RowKit

/-- How a decoder's text is told, with an error. -/
def TextEnds (ev : Value) : Option (List UInt8) → Ending → Prop
  | some t, e => e = .returned (.tuple #[.string ⟨t.toArray⟩, .nilIface])
  | none, e => e = .returned (.tuple #[.string ByteArray.empty, ev])

set_option maxRecDepth 100000 in
theorem toString_any (cap : Nat) (sa : Option Addr) (v : List UInt8) (tn : TypeId) (pv : Value) (w : World) (hv : v.length ≤ 134217728) (hsrc : Src w.heap.size sa v w) (hl : LenTab w) (hc : CodeTab w)
    (he : w.cell? ⟨0, 0, none⟩ = some (.iface tn pv)) :
    Calls Tryd.prog 25 #[.slice sa v.length cap] w fun e w' => TextEnds (.iface tn pv) (HP.hdec v) e ∧ Below w.heap.size w w' := by
  have hG : 0 < w.heap.size := World.block_lt_of_cell? w ⟨0, 0, none⟩ he
  have Hl := Lib.hid hl
  have Hc := Lib.hid hc
  have Hsrc := Lib.hid hsrc
  have He := Lib.hid he
  clear hl hc hsrc he
  have hb0 : Below w.heap.size w (w.alloc (.cells #[.slice none 0 0, .int .i64 0, .int .i8 0] 80)) := (Below.refl _ _).alloc (Nat.le_refl _) _
  have hbuf : IsBuf w.heap.size w.heap.size [] (w.alloc (.cells #[.slice none 0 0, .int .i64 0, .int .i8 0] 80)) := Lib.fresh_isBuffer _ _ w
  have Hb0 := Lib.hid hb0
  have Hbuf := Lib.hid hbuf
  clear hb0 hbuf
  go_enter Tryd.func25, Tryd.ntmps25
  go_wp2_with fail
  refine (decode_any w.heap.size w.heap.size cap sa v (.iface tn pv) _ hv Hbuf.out (by simp) (Hsrc.out.below Hb0.out) (Hl.out.below Hb0.out (LenTab.lt Hl.out)) (Hc.out.below Hb0.out (CodeTab.lt Hc.out)) ((Hb0.out.cell (p := ⟨0, 0, none⟩) hG).trans He.out) hG).mono ?_
  rintro e w1 ⟨hend, hb1⟩
  have Hb1 := Lib.hid (Hb0.out.trans hb1)
  clear hb1
  cases hd : HP.hdec v with
  | none =>
    rw [hd] at hend
    obtain ⟨rfl, -⟩ : e = .returned (.iface tn pv) ∧ _ := hend
    go_wp2_with fail
    go_ret2
    exact ⟨by rw [hd]; rfl, Hb1.out⟩
  | some t =>
    rw [hd] at hend
    obtain ⟨rfl, hbuf⟩ : e = .returned .nilIface ∧ IsBuf w.heap.size w.heap.size t w1 := hend
    have Hbuf := Lib.hid hbuf
    clear hbuf
    go_wp2_with fail
    refine (Buffer_String w.heap.size w.heap.size t _ Hbuf.out).mono ?_
    rintro e w2 ⟨rfl, n, rfl⟩
    go_wp2_with fail
    go_ret2
    exact ⟨by rw [hd]; rfl, Hb1.out.trans ⟨rfl, rfl, rfl, Nat.le_refl _, fun _ _ => rfl⟩⟩

theorem codeOf_nil (w : World) : Calls Tryd.prog 26 #[.nilIface] w fun e w' => e = .returned (.tuple #[.int .i64 0, .int .i64 0]) ∧ w = w' := by
  go_enter Tryd.func26, Tryd.ntmps26
  go_wp2
  go_ret2
  exact ⟨rfl, rfl⟩

theorem assert61 (p : Value) (w : World) : (Instr.typeAssert (.iface 121 p) 64 97 true).run Tryd.prog w = .ok (.tuple #[.agg #[.nilIface], .bool false]) w := by
  simp [Instr.typeAssert, run_underlying Tryd.underlying97, Tryd.zeroValue97]
theorem assert63 (p : Value) (w : World) : (Instr.typeAssert (.iface 121 p) 64 99 true).run Tryd.prog w = .ok (.tuple #[.int .i64 0, .bool false]) w := by
  simp [Instr.typeAssert, run_underlying Tryd.underlying99, Tryd.zeroValue99]

theorem info85 : (Tryd.prog.info? 121).map (·.comparable) = some true := by kernel_rfl
theorem eql_same (a : Addr) (w : World) : (binOp .eql 64 (.iface 121 (.pointer (some a))) (.iface 121 (.pointer (some a)))).run Tryd.prog w = .ok (.bool true) w := by
  obtain ⟨i, hi, hc⟩ : ∃ i, Tryd.prog.info? 121 = some i ∧ i.comparable = true := by
    have h := info85
    cases hi : Tryd.prog.info? 121 with
    | none => rw [hi] at h; cases h
    | some i => rw [hi] at h; exact ⟨i, rfl, by simpa using h⟩
  obtain ⟨j, hj⟩ : ∃ j, Tryd.prog.info? 123 = some j := Option.isSome_iff_exists.1 (by kernel_rfl)
  exact run_eql_iface_ptr_same w a Tryd.underlying64 Tryd.underlying121 hi hc hj

set_option maxRecDepth 100000 in
theorem codeOf_inv (a : Addr) (w : World) (he : w.cell? ⟨0, 0, none⟩ = some (.iface 121 (.pointer (some a)))) :
    Calls Tryd.prog 26 #[.iface 121 (.pointer (some a))] w fun e w' => e = .returned (.tuple #[.int .i64 2, .int .i64 0]) ∧ Below w.heap.size w w' := by
  have hG : 0 < w.heap.size := World.block_lt_of_cell? w ⟨0, 0, none⟩ he
  go_enter Tryd.func26, Tryd.ntmps26
  have h61 := assert61 (.pointer (some a))
  have h63 := assert63 (.pointer (some a))
  have heq := eql_same a
  go_wp2_with fail
  go_ret2
  exact ⟨rfl, (Below.refl _ _).alloc (Nat.le_refl _) _⟩
end Go.Proofs.YtlkpeeoippbdoaaDoor
/-
  The contract of impl.HuffmanText.
-/
namespace Go.Proofs.YtlkpeeoippbdoaaDoor
open Go.ChangeShapes Go.WideShapes Go.ChangeAt Go.RowKit

/-- The bytes of any slice. -/
def SrcAny (sa : Option Addr) (cap : Nat) (v : List UInt8) (w : World) : Prop := (sa = none ∧ cap = 0 ∧ v = []) ∨ ∃ a, sa = some a ∧ ∀ q u, (Lib.byteCells v)[q]? = some u → w.cell? (a.add q) = some u

theorem src_of_own {w : World} {B cap : Nat} {sa : Option Addr} {v : List UInt8} (h : w.ownsRow B 5 1 (.slice sa v.length cap) v.length (Lib.byteCells v)) : Src w.heap.size sa v w := by
  intro hv
  rcases h.2 with ⟨_, hn⟩ | ⟨g, cap', cur, e, _, hg, _, _, hcs, htk⟩
  · exact absurd (List.eq_nil_of_length_eq_zero hn) hv
  · injection e with e1 _ _
    refine ⟨g, 0, e1, Lib.lt_of_heap hg, fun i hi => ?_⟩
    rw [Nat.zero_add, Lib.cell_of_heap hg, ← Array.getElem?_toList]
    have h1 : (cur.toList.take (v.length * 1))[i]? = (Lib.byteCells v)[i]? := by rw [htk]
    rw [List.getElem?_take, if_pos (by omega)] at h1
    rw [h1]
    simp [Lib.byteCells, hi]

/-- What HuffmanText tells. -/
def textOf : Option (List UInt8) → Value
  | some t => .tuple #[.string ⟨t.toArray⟩, .int .i64 0]
  | none => .tuple #[.string ByteArray.empty, .int .i64 2]

set_option maxRecDepth 100000 in
theorem text_own (cap : Nat) (sa : Option Addr) (v : List UInt8) (a : Addr) (w : World) (hv : v.length ≤ 134217728) (hsrc : Src w.heap.size sa v w) (hl : LenTab w) (hc : CodeTab w)
    (he : w.cell? ⟨0, 0, none⟩ = some (.iface 121 (.pointer (some a)))) {Q : Ending → World → Prop}
    (hsome : ∀ t w', HP.hdec v = some t → Below w.heap.size w w' → Q (.returned (.tuple #[.string ⟨t.toArray⟩, .nilIface])) w')
    (hnone : ∀ w', HP.hdec v = none → Below w.heap.size w w' → Q (.returned (.tuple #[.string ByteArray.empty, .iface 121 (.pointer (some a))])) w') :
    Calls Tryd.prog 25 #[.slice sa v.length cap] w Q := by
  refine (toString_any cap sa v _ _ w hv hsrc hl hc he).mono ?_
  rintro e w' ⟨h, hb⟩
  cases hd : HP.hdec v with
  | none => rw [hd] at h; obtain rfl := h; exact hnone w' hd hb
  | some t => rw [hd] at h; obtain rfl := h; exact hsome t w' hd hb

set_option maxRecDepth 100000 in
theorem text_any (cap : Nat) (sa : Option Addr) (v : List UInt8) (a : Addr) (w : World) (hv : v.length ≤ 134217728) (hsrc : SrcAny sa cap v w) (hl : LenTab w) (hc : CodeTab w)
    (he : w.cell? ⟨0, 0, none⟩ = some (.iface 121 (.pointer (some a)))) :
    Calls Tryd.prog 19 #[.slice sa v.length cap] w fun e w' => e = .returned (textOf (HP.hdec v)) ∧ Below w.heap.size w w' := by
  have hG : 0 < w.heap.size := World.block_lt_of_cell? w ⟨0, 0, none⟩ he
  have Hl := Lib.hid hl
  have Hc := Lib.hid hc
  have He := Lib.hid he
  clear hl hc he
  have key : ∀ (w1 : World) (sb : Option Addr) (cb : Nat), w1.ownsRow w.heap.size 5 1 (.slice sb v.length cb) v.length (Lib.byteCells v) → Below w.heap.size w w1 → ∀ Q : Ending → World → Prop,
      (∀ t w', HP.hdec v = some t → Below w.heap.size w w' → Q (.returned (.tuple #[.string ⟨t.toArray⟩, .nilIface])) w') →
      (∀ w', HP.hdec v = none → Below w.heap.size w w' → w'.cell? ⟨0, 0, none⟩ = some (.iface 121 (.pointer (some a))) → Q (.returned (.tuple #[.string ByteArray.empty, .iface 121 (.pointer (some a))])) w') →
      Calls Tryd.prog 25 #[.slice sb v.length cb] w1 Q := by
    intro w1 sb cb hown hb Q h1 h2
    have he1 := (hb.cell (p := ⟨0, 0, none⟩) hG).trans He.out
    refine text_own cb sb v a w1 hv (src_of_own hown) (Hl.out.below hb (LenTab.lt Hl.out)) (Hc.out.below hb (CodeTab.lt Hc.out)) he1 ?_ ?_
    · intro t w' hd hb'; exact h1 t w' hd (hb.trans (hb'.mono hb.size))
    · intro w' hd hb'
      have hbb := hb.trans (hb'.mono hb.size)
      exact h2 w' hd hbb ((hbb.cell (p := ⟨0, 0, none⟩) hG).trans He.out)
  rcases hsrc with ⟨rfl, rfl, rfl⟩ | ⟨ad, rfl, hcells⟩
  · go_enter Tryd.func19, Tryd.ntmps19
    go_wp2_with fail
    refine key w none 0 (World.ownsRow_nil _ _ _ _) (Below.refl _ _) _ ?_ ?_
    · intro t w' hd hb'
      go_wp2_with fail
      refine (codeOf_nil _).mono ?_
      rintro e w2 ⟨rfl, rfl⟩
      go_wp2_with fail
      go_ret2
      exact ⟨by rw [hd]; rfl, hb'⟩
    · intro w' hd hb' he'
      go_wp2_with fail
      refine (codeOf_inv a _ he').mono ?_
      rintro e w2 ⟨rfl, hb2⟩
      go_wp2_with fail
      go_ret2
      exact ⟨by rw [hd]; rfl, hb'.trans (hb2.mono hb'.size)⟩
  · obtain ⟨i0, hi, hz0, hz1, hz2⟩ := info_parts infoU8
    have Hcells := Lib.hid hcells
    clear hcells
    go_enter Tryd.func19, Tryd.ntmps19
    go_wp2_with (at_builtin; go_must (refine wpList_append_own_at _ rfl _ _ 22 rfl w.heap.size 5 i0 (.int .u8 0) 1 1 Tryd.underlying22 hi hz0 hz1 hz2 rfl (by decide) (.slice none 0 0) 0 [] rfl (World.ownsRow_nil w _ _ _) ad v.length cap (Lib.byteCells v) rfl (by rw [byteCells_len, Nat.mul_one]) Hcells.out (Lib.byteCells_one _) (by unfold maxLen; omega) (by omega) (Nat.le_refl _) ?_); intro v1 w1 hown1 hgrow1 _ _)
    rw [Nat.zero_add, List.nil_append] at hown1
    have hb1 : Below w.heap.size w w1 := (Below.refl _ _).grown hgrow1 (Nat.le_refl _) (fun k hk => by cases hk)
    obtain ⟨sb, cb, rfl⟩ := ownsRow_form hown1
    refine key w1 sb cb hown1 hb1 _ ?_ ?_
    · intro t w' hd hb'
      go_wp2_with fail
      refine (codeOf_nil _).mono ?_
      rintro e w2 ⟨rfl, rfl⟩
      go_wp2_with fail
      go_ret2
      exact ⟨by rw [hd]; rfl, hb'⟩
    · intro w' hd hb' he'
      go_wp2_with fail
      refine (codeOf_inv a _ he').mono ?_
      rintro e w2 ⟨rfl, hb2⟩
      go_wp2_with fail
      go_ret2
      exact ⟨by rw [hd]; rfl, hb'.trans (hb2.mono hb'.size)⟩
end Go.Proofs.YtlkpeeoippbdoaaDoor
