/-
  The contract of AppendHuffmanString: it appends the text's codes, filled up with ones. Texts of at most 2^20 bytes.
-/
import Derived.Test.YtnemkaiaieomfaaDoorHuffLen
import Derived.Test.YtnemkaiaieomfaaDoorHuffEnc
import Derived.Maps.AppendAt
import Derived.Deep.DeepMust
import Derived.Lib.UnsafeStr
import Derived.Lib.BufferWrite
namespace Go.Proofs.YtnemkaiaieomfaaDoor
open Go.ChangeShapes Go.WideShapes Go.ChangeAt Go.RowKit

/-- The table of the codes lies in memory. -/
def CodeTab (w : World) : Prop := ∀ i, i < 256 → w.cell? ⟨1, i, none⟩ = some (.int .u32 (HP.hcode i : Nat))

/-- What was appended to: no other old block has changed; the new slice lies where the old one lay, or in a new block. -/
structure Grew (w w' : World) (v v' : Value) : Prop where
  grown : w.grownBy w' v.ownBlock
  at_ : v'.ownBlock = v.ownBlock ∨ ∃ g, v'.ownBlock = some g ∧ w.heap.size ≤ g

theorem Grew.refl (w : World) (v : Value) : Grew w w v v := ⟨⟨rfl, rfl, rfl, Nat.le_refl _, fun _ _ _ => rfl⟩, .inl rfl⟩
theorem Grew.trans {w1 w2 w3 : World} {a b c : Value} (h : Grew w1 w2 a b) (k : Grew w2 w3 b c) : Grew w1 w3 a c := by
  refine ⟨⟨k.grown.os.trans h.grown.os, k.grown.tape.trans h.grown.tape, k.grown.output.trans h.grown.output, Nat.le_trans h.grown.size k.grown.size, fun i hi hne => ?_⟩, ?_⟩
  · rw [k.grown.block i (Nat.lt_of_lt_of_le hi h.grown.size) ?_, h.grown.block i hi hne]
    rcases h.at_ with e | ⟨g, e, hg⟩
    · rw [e]; exact hne
    · rw [e]; intro h0; have := Option.some.inj h0; omega
  · rcases k.at_ with e | ⟨g, e, hg⟩
    · rcases h.at_ with e' | ⟨g', e', hg'⟩
      · exact .inl (e.trans e')
      · exact .inr ⟨g', e.trans e', hg'⟩
    · exact .inr ⟨g, e, Nat.le_trans h.grown.size hg⟩

theorem Grew.alloc {w wr : World} {v d : Value} (h : Grew w wr v d) (o : Obj) : Grew w (wr.alloc o) v d :=
  h.trans ⟨World.grownBy_alloc wr o d.ownBlock, .inl rfl⟩
theorem Grew.drew {w wr : World} {v d : Value} (h : Grew w wr v d) : Grew w wr.drew v d :=
  h.trans ⟨⟨rfl, rfl, rfl, Nat.le_refl _, fun _ _ _ => rfl⟩, .inl rfl⟩
/-- A block that lies below what is appended to is as it was. -/
theorem Grew.below {w w' : World} {v v' : Value} {B e size n : Nat} {xs : List Value} (h : Grew w w' v v') (hown : w.ownsRow B e size v n xs) (hB : B ≤ w.heap.size) : Below B w w' :=
  ⟨h.grown.os, h.grown.tape, h.grown.output, h.grown.size, fun k hk => h.grown.block k (by omega) (fun e => by have := hown.lt k e.symm; omega)⟩

theorem hcode_lt (i : Nat) (h : i < 256) : HP.hcode i < 2 ^ HP.hlen i := by
  have : ((List.range 256).all fun c => decide (HP.hcode c < 2 ^ HP.hlen c)) = true := by decide +kernel
  have := List.all_eq_true.1 this i (by simpa using h)
  simpa using this

theorem or_step {X L C : Nat} (hL : L ≤ 30) (hC : C < 2 ^ L) :
    bits BinOp.or IntKind.u64 (IntKind.u64.wrap ((X : Int) * 2 ^ (L % 64))) (IntKind.u64.wrap (C : Int)) = ((HP.stepX X L C : Nat) : Int) := by
  have hC' : C < 18446744073709551616 := Nat.lt_of_lt_of_le hC (Nat.le_trans (Nat.pow_le_pow_right (by decide) hL) (by decide))
  have e1 : IntKind.u64.wrap ((X : Int) * 2 ^ (L % 64)) = ((X * 2 ^ L % 2 ^ 64 : Nat) : Int) := by
    rw [Nat.mod_eq_of_lt (show L < 64 by omega)]
    simp [IntKind.wrap, IntKind.bits, IntKind.signed]
  have e2 : IntKind.u64.wrap (C : Int) = (C : Int) := by
    simp only [IntKind.wrap, IntKind.bits, IntKind.signed]
    simp
    omega
  rw [e1, e2, u64_or_nat _ _ (Nat.mod_lt _ (by decide)) hC', HP.stepX_or (by omega) hC]

theorem news_of_new (w : World) (l : List Value) (t : TypeId) : ∀ (q : Nat) u, l[q]? = some u → (w.alloc (.cells l.toArray t)).cell? ((⟨w.heap.size, 0, none⟩ : Addr).add q) = some u := by
  intro q u h
  have hadd : (⟨w.heap.size, 0, none⟩ : Addr).add q = ⟨w.heap.size, q, none⟩ := by unfold Addr.add; split <;> simp_all
  rw [hadd, World.cell?_alloc_new]
  simpa using h

theorem Grew.app {w wr w1 : World} {v d v1 : Value} {o : Obj} (h : Grew w wr v d) (hg : (wr.alloc o).grownBy w1 d.ownBlock) (hat : v1.ownBlock = d.ownBlock ∨ v1.ownBlock = some (wr.alloc o).heap.size) : Grew w w1 v v1 :=
  (h.alloc o).trans ⟨hg, hat.imp id fun e => ⟨_, e, Nat.le_refl _⟩⟩

theorem byteCell_ofNat (n : Nat) (h : n < 256) : Value.int .u8 (((UInt8.ofNat n).toNat : Nat) : Int) = .int .u8 (n : Int) := by
  rw [UInt8.toNat_ofNat', Nat.mod_eq_of_lt (by simpa using h)]

theorem cells4 {l : List Bool} (h : l.length = 32) {Y : Nat} (hY : Y = HP.ofBits l) :
    [Value.int .u8 ((Y : Int) / 16777216), .int .u8 ((Y : Int) / 65536 % 256), .int .u8 ((Y : Int) / 256 % 256), .int .u8 ((Y : Int) % 256)] = Lib.byteCells (HP.pack l) := by
  have hlt := HP.ofBits_lt l
  rw [h, ← hY] at hlt
  rw [HP.pack32 h, ← hY]
  simp only [Lib.byteCells, List.map_cons, List.map_nil]
  rw [byteCell_ofNat _ (by omega), byteCell_ofNat _ (by omega), byteCell_ofNat _ (by omega), byteCell_ofNat _ (by omega)]
  simp only [Int.natCast_ediv, Int.natCast_emod]
  rfl

theorem cells1 {l : List Bool} (h : l.length = 8) {X : Nat} (hX : X % 2 ^ 8 = HP.ofBits l) : [Value.int .u8 ((X : Int) % 256)] = Lib.byteCells (HP.pack l) := by
  rw [HP.pack8 h, ← hX]
  simp only [Lib.byteCells, List.map_cons, List.map_nil]
  rw [byteCell_ofNat _ (by omega)]
  simp only [Int.natCast_emod]
  rfl
theorem wrap16 (X : Nat) : IntKind.u16.wrap (X : Int) = ((X % 65536 : Nat) : Int) := by simp [IntKind.wrap, IntKind.bits, IntKind.signed]
theorem cells2 {l : List Bool} (h : l.length = 16) {X : Nat} (hX : X % 2 ^ 16 = HP.ofBits l) : [Value.int .u8 (IntKind.u16.wrap (X : Int) / 256 % 256), .int .u8 (IntKind.u16.wrap (X : Int) % 256)] = Lib.byteCells (HP.pack l) := by
  rw [HP.pack16 h, ← hX, wrap16]
  simp only [Lib.byteCells, List.map_cons, List.map_nil]
  rw [byteCell_ofNat _ (by omega), byteCell_ofNat _ (by omega)]
  have e1 : ((X % 65536 : Nat) : Int) / 256 % 256 = ((X % 2 ^ 16 / 256 : Nat) : Int) := by omega
  have e2 : ((X % 65536 : Nat) : Int) % 256 = ((X % 2 ^ 16 % 256 : Nat) : Int) := by omega
  rw [e1, e2]
theorem cells3 {l : List Bool} (h : l.length = 24) {X : Nat} (hX : X % 2 ^ 24 = HP.ofBits l) : [Value.int .u8 (IntKind.u16.wrap ((X : Int) / 256) / 256 % 256), .int .u8 (IntKind.u16.wrap ((X : Int) / 256) % 256), .int .u8 ((X : Int) % 256)] = Lib.byteCells (HP.pack l) := by
  have e0 : (X : Int) / 256 = ((X / 256 : Nat) : Int) := by omega
  rw [HP.pack24 h, ← hX, e0, wrap16]
  simp only [Lib.byteCells, List.map_cons, List.map_nil]
  rw [byteCell_ofNat _ (by omega), byteCell_ofNat _ (by omega), byteCell_ofNat _ (by omega)]
  have e1 : ((X / 256 % 65536 : Nat) : Int) / 256 % 256 = ((X % 2 ^ 24 / 65536 : Nat) : Int) := by omega
  have e2 : ((X / 256 % 65536 : Nat) : Int) % 256 = ((X % 2 ^ 24 / 256 % 256 : Nat) : Int) := by omega
  have e3 : (X : Int) % 256 = ((X % 2 ^ 24 % 256 : Nat) : Int) := by omega
  rw [e1, e2, e3]

theorem henc_split {t D : List UInt8} {rr : List Bool} {p q : Nat} (h : HP.tbits t ++ List.replicate p true = HP.unpack D ++ rr) (hr : rr.length = 8 * q) (hp : p < 8) : HP.henc t = D ++ HP.pack rr := by
  have hl := congrArg List.length h
  simp only [List.length_append, List.length_replicate, HP.length_unpack, hr] at hl
  have e : HP.padOf (HP.tbits t).length = p := by unfold HP.padOf; omega
  rw [HP.henc, e, h, HP.pack_unpack_append]

theorem app_done {B T n q p : Nat} {v1 : Value} {w1 : World} {xs news : List Value} {t D : List UInt8} {rr : List Bool} (hown : w1.ownsRow B T 1 v1 (n + D.length + q) (xs ++ Lib.byteCells D ++ news)) (hnews : news = Lib.byteCells (HP.pack rr)) (hr : rr.length = 8 * q)
    (h : HP.tbits t ++ List.replicate p true = HP.unpack D ++ rr) (hp : p < 8) : w1.ownsRow B T 1 v1 (n + (HP.henc t).length) (xs ++ Lib.byteCells (HP.henc t)) := by
  rw [henc_split h hr hp, List.length_append, HP.length_pack q _ hr, ← Nat.add_assoc]
  have e3 : Lib.byteCells (D ++ HP.pack rr) = Lib.byteCells D ++ Lib.byteCells (HP.pack rr) := by simp [Lib.byteCells]
  rw [e3, ← hnews, ← List.append_assoc]
  exact hown

theorem or_pad {X pd o : Nat} (hp : 1 ≤ pd ∧ pd ≤ 7) (ho : 8 - o = pd) :
    bits BinOp.or IntKind.u64 (IntKind.u64.wrap ((X : Int) * 2 ^ pd)) ((255 : Int) / 2 ^ o) = ((HP.stepX X pd (2 ^ pd - 1) : Nat) : Int) := by
  have hC : 2 ^ pd - 1 < 2 ^ pd := by have := Nat.two_pow_pos pd; omega
  have h := or_step (X := X) (L := pd) (C := 2 ^ pd - 1) (by omega) hC
  rw [Nat.mod_eq_of_lt (show pd < 64 by omega)] at h
  have e : (255 : Int) / 2 ^ o = IntKind.u64.wrap ((2 ^ pd - 1 : Nat) : Int) := by
    have hcase : (o = 1 ∧ pd = 7) ∨ (o = 2 ∧ pd = 6) ∨ (o = 3 ∧ pd = 5) ∨ (o = 4 ∧ pd = 4) ∨ (o = 5 ∧ pd = 3) ∨ (o = 6 ∧ pd = 2) ∨ (o = 7 ∧ pd = 1) := by omega
    rcases hcase with ⟨rfl, rfl⟩ | ⟨rfl, rfl⟩ | ⟨rfl, rfl⟩ | ⟨rfl, rfl⟩ | ⟨rfl, rfl⟩ | ⟨rfl, rfl⟩ | ⟨rfl, rfl⟩ <;> decide
  rw [e]
  exact h

theorem infoU8 : (Tryd.prog.info? 5).map (fun i => (i.zero, i.size, i.bytes)) = some (some (.int .u8 0), 1, 1) := by kernel_rfl

set_option maxRecDepth 100000 in
set_option maxHeartbeats 1000000 in
theorem app_any (B n : Nat) (v : Value) (xs : List Value) (s : ByteArray) (w : World) (hown : w.ownsRow B 5 1 v n xs) (hB : B ≤ w.heap.size) (hG : 0 < B ∧ 1 < B)
    (hs : s.size ≤ 4194304) (hn : n ≤ 1099511627776) (ht : LenTab w) (hc : CodeTab w) :
    Calls Tryd.prog 13 #[v, .string s] w fun e w' => ∃ v', e = .returned v' ∧ w'.ownsRow B 5 1 v' (n + (HP.henc s.data.toList).length) (xs ++ Lib.byteCells (HP.henc s.data.toList)) ∧ Grew w w' v v' := by
  have Ht := Lib.hid ht
  have Hc := Lib.hid hc
  have Hown := Lib.hid hown
  have HG := Lib.hid hG
  clear ht hc hown hG
  go_enter Tryd.func13, Tryd.ntmps13
  go_wp2
  go_loopw [0, 5, 6, 7] (fun d x b i wr => ∃ (k X : Nat) (r : List Bool) (D : List UInt8), k ≤ s.size ∧ i = .int .i64 k ∧ b = .int .u64 r.length ∧ x = .int .u64 X ∧ r.length < 32 ∧ X < 18446744073709551616 ∧ Hid (X % 2 ^ r.length = HP.ofBits r) ∧
      Hid (HP.tbits (s.data.toList.take k) = HP.unpack D ++ r) ∧ wr.ownsRow B 5 1 d (n + D.length) (xs ++ Lib.byteCells D) ∧ Grew w wr v d) (fun _ _ _ i _ => s.size - (intOf i).toNat)
  case atStart => exact ⟨0, 0, [], [], Nat.zero_le _, rfl, rfl, rfl, by simp, by decide, rfl, rfl, by simpa [Lib.byteCells] using Hown.out, Grew.refl _ _⟩
  case round =>
    obtain ⟨k, X, r, D, hk, rfl, rfl, rfl, hr, hX, HX, HT, hown, hgrew⟩ := hrel
    have hbel := hgrew.below Hown.out hB
    have hDn : D.length ≤ 125829120 := by
      have h1 := congrArg List.length HT.out
      rw [HP.length_tbits, List.length_append, HP.length_unpack] at h1
      have h2 := nbits_le (s.data.toList.take k)
      have h3 := List.length_take_le k s.data.toList
      omega
    by_cases hlt : k < s.size
    · have ht1 : wr.cell? ⟨0, s[k].toNat, none⟩ = some (.int .u8 (HP.hlen s[k].toNat : Nat)) := (hbel.cell (p := ⟨0, s[k].toNat, none⟩) HG.out.1).trans (Ht.out _ (by simpa using s[k].toNat_lt))
      have hc1 : wr.cell? ⟨1, s[k].toNat, none⟩ = some (.int .u32 (HP.hcode s[k].toNat : Nat)) := (hbel.cell (p := ⟨1, s[k].toNat, none⟩) HG.out.2).trans (Hc.out _ (by simpa using s[k].toNat_lt))
      have h256 : (s[k].toNat : Int) < 256 := by have := s[k].toNat_lt; omega
      have h30 := hlen_lt s[k].toNat (by simpa using s[k].toNat_lt)
      have HL := Lib.hid hX
      clear hX hbel
      generalize hrl : r.length = m at *
      have Hrl := Lib.hid hrl
      clear hrl
      generalize hLe : HP.hlen s[k].toNat = L at *
      generalize hCe : HP.hcode s[k].toNat = C at *
      have HLe := Lib.hid hLe
      have HCe := Lib.hid hCe
      clear hLe hCe
      have hCL : C < 2 ^ L := by have := hcode_lt s[k].toNat (by simpa using s[k].toNat_lt); rwa [HLe.out, HCe.out] at this
      have hx := or_step (X := X) h30 hCL
      have HX' := Lib.hid (HP.stepX_bits Hrl.out HX.out hCL (by omega))
      have HXlt := Lib.hid (HP.stepX_lt (X := X) (show L ≤ 64 by omega) hCL)
      have HTn : Hid (HP.tbits (s.data.toList.take (k + 1)) = HP.unpack D ++ (r ++ HP.bitsOf L C)) := by
        have h1 := HT.out
        have h2 : HP.tbits [s[k]] = HP.bitsOf L C := by rw [← HLe.out, ← HCe.out]; simp [HP.tbits, HP.cbits]
        show HP.tbits (s.data.toList.take (k + 1)) = _
        rw [take_snoc s k hlt, HP.tbits_append, h1, h2, List.append_assoc]
      have Hrn : Hid ((r ++ HP.bitsOf L C).length = m + L) := by
        have h1 := Hrl.out
        show (r ++ HP.bitsOf L C).length = m + L
        rw [List.length_append, HP.length_bitsOf, h1]
      have Hr : Hid (HP.unpack D ++ (r ++ HP.bitsOf L C) = HP.unpack D ++ (r ++ HP.bitsOf L C)) := rfl
      generalize r ++ HP.bitsOf L C = r' at *
      generalize HP.stepX X L C = X' at *
      clear hCL HT HX Hrl HL HLe HCe Hr
      by_cases h32 : m + L < 32
      · go_wp2_with fail
        refine ⟨⟨k + 1, X', r', D, by omega, by go_num, by rw [Hrn.out]; go_num, rfl, by rw [Hrn.out]; exact h32, by have := HXlt.out; omega, by rw [Hrn.out]; exact HX'.out, HTn.out, hown, hgrew⟩, by simp [intOf]; omega⟩
      · obtain ⟨j, hjl⟩ : ∃ j, m + L = 32 + j := ⟨m + L - 32, by omega⟩
        have hj32 : j < 32 := by omega
        have Hjl := Lib.hid hjl
        have hj1 : ((m : Int) + L) % 32 = (j : Int) := by omega
        have hj2 : (m + L) % 32 = j := by omega
        rw [hjl] at HX' Hrn
        clear hjl
        obtain ⟨Htop, Hlow⟩ := HP.top_bits Hrn.out HX'.out
        have hY : (X' : Int) / 2 ^ j % 4294967296 = ((X' / 2 ^ j % 2 ^ 32 : Nat) : Int) := by simp
        generalize X' / 2 ^ j % 2 ^ 32 = Y at *
        have HY := Lib.hid Htop
        have HZ := Lib.hid Hlow
        clear Htop Hlow
        have hown' := hown.alloc (.cells #[.int .u8 ((Y : Int) / 16777216), .int .u8 ((Y : Int) / 65536 % 256), .int .u8 ((Y : Int) / 256 % 256), .int .u8 ((Y : Int) % 256)] 5)
        obtain ⟨i0, hi, hz0, hz1, hz2⟩ := info_parts infoU8
        have g1 : ∀ (q : Nat) u, [Value.int .u8 ((Y : Int) / 16777216), .int .u8 ((Y : Int) / 65536 % 256), .int .u8 ((Y : Int) / 256 % 256), .int .u8 ((Y : Int) % 256)][q]? = some u → (wr.alloc (.cells #[.int .u8 ((Y : Int) / 16777216), .int .u8 ((Y : Int) / 65536 % 256), .int .u8 ((Y : Int) / 256 % 256), .int .u8 ((Y : Int) % 256)] 5)).cell? ((⟨wr.heap.size, 0, none⟩ : Addr).add q) = some u := news_of_new wr _ 5
        have g2 : ∀ u ∈ [Value.int .u8 ((Y : Int) / 16777216), .int .u8 ((Y : Int) / 65536 % 256), .int .u8 ((Y : Int) / 256 % 256), .int .u8 ((Y : Int) % 256)], u.oneCell' = true := by simp [Value.oneCell']
        have G1 := Lib.hid g1
        clear g1
        have hBr : B ≤ (wr.alloc (.cells #[.int .u8 ((Y : Int) / 16777216), .int .u8 ((Y : Int) / 65536 % 256), .int .u8 ((Y : Int) / 256 % 256), .int .u8 ((Y : Int) % 256)] 5)).heap.size := by have := hgrew.grown.size; simp; omega
        have h63 : n + D.length + 4 ≤ maxLen := by unfold maxLen; omega
        go_wp2_with (at_builtin; go_must (refine wpList_append_own_at _ rfl _ _ 23 rfl B 5 i0 (.int .u8 0) 1 1 Tryd.underlying23 hi hz0 hz1 hz2 rfl (by decide) _ _ _ rfl hown' ⟨wr.heap.size, 0, none⟩ 4 4 [.int .u8 ((Y : Int) / 16777216), .int .u8 ((Y : Int) / 65536 % 256), .int .u8 ((Y : Int) / 256 % 256), .int .u8 ((Y : Int) % 256)] rfl rfl G1.out g2 h63 (by omega) hBr ?_); intro v1 w1 hown1 hgrow1 _ hat1)
        have hgrew1 := Grew.app (d := u0) hgrew hgrow1 hat1
        have h32l : (r'.take 32).length = 32 := by have := Hrn.out; simp; omega
        have hl4 : (HP.pack (r'.take 32)).length = 4 := HP.length_pack 4 _ h32l
        have hown2 : w1.ownsRow B 5 1 v1 (n + (D ++ HP.pack (r'.take 32)).length) (xs ++ Lib.byteCells (D ++ HP.pack (r'.take 32))) := by
          have e := cells4 h32l HY.out
          rw [e] at hown1
          have e2 : n + (D ++ HP.pack (r'.take 32)).length = n + D.length + 4 := by rw [List.length_append, hl4]; omega
          have e3 : Lib.byteCells (D ++ HP.pack (r'.take 32)) = Lib.byteCells D ++ Lib.byteCells (HP.pack (r'.take 32)) := by simp [Lib.byteCells]
          rw [e2, e3, ← List.append_assoc]
          exact hown1
        have HTf : Hid (HP.tbits (s.data.toList.take (k + 1)) = HP.unpack (D ++ HP.pack (r'.take 32)) ++ r'.drop 32) := by
          have h1 := HTn.out
          show HP.tbits (s.data.toList.take (k + 1)) = _
          rw [h1, HP.unpack_append, HP.unpack_pack 4 _ h32l, List.append_assoc, List.take_append_drop]
        have Hdl : Hid ((r'.drop 32).length = j) := by
          have := Hrn.out
          show (r'.drop 32).length = j
          rw [List.length_drop]; omega
        clear hown1 hgrow1 hat1 h32l hl4 G1 hown' hown hgrew hBr h63 g2
        go_wp2_with fail
        refine ⟨⟨k + 1, X', r'.drop 32, _, by omega, by go_num, by rw [Hdl.out], rfl, by rw [Hdl.out]; exact hj32, by have := HXlt.out; omega, by rw [Hdl.out]; exact HZ.out, HTf, hown2, hgrew1⟩, by simp [intOf]; omega⟩
    · have hks : k = s.size := by omega
      have HT2 : Hid (HP.tbits s.data.toList = HP.unpack D ++ r) := by
        have e : s.data.toList.take k = s.data.toList := List.take_of_length_le (by simp; omega)
        have := HT.out
        rw [e] at this
        exact this
      clear HT hbel
      have HL := Lib.hid hX
      clear hX
      generalize hrl : r.length = m at *
      have Hrl := Lib.hid hrl
      clear hrl
      have hk2 : ¬ k < s.size := hlt
      obtain ⟨i0, hi, hz0, hz1, hz2⟩ := info_parts infoU8
      by_cases hov : m % 8 = 0
      · have hov0 : decide ((0 : Int) < (m : Int) % 8) = false := by simp; omega
        have hq : m = 0 ∨ m = 8 ∨ m = 16 ∨ m = 24 := by omega
        rcases hq with rfl | rfl | rfl | rfl
        · go_wp2_with fail
          go_ret
          have e := henc_split (p := 0) (q := 0) (by have := HT2.out; simpa using this) Hrl.out (by omega)
          have e0 : r = [] := List.eq_nil_of_length_eq_zero Hrl.out
          rw [e0, HP.pack_nil, List.append_nil] at e
          exact ⟨u0, rfl, by rw [e]; exact hown, hgrew⟩
        · have G1 := Lib.hid (news_of_new wr [Value.int .u8 ((X : Int) % 256)] 5)
          have g2 : ∀ u ∈ [Value.int .u8 ((X : Int) % 256)], u.oneCell' = true := by simp [Value.oneCell']
          have hBr : B ≤ (wr.alloc (.cells #[Value.int .u8 ((X : Int) % 256)] 5)).heap.size := by have := hgrew.grown.size; simp; omega
          have h63 : n + D.length + 1 ≤ maxLen := by unfold maxLen; omega
          go_wp2_with (at_builtin; go_must (refine wpList_append_own_at _ rfl _ _ 23 rfl B 5 i0 (.int .u8 0) 1 1 Tryd.underlying23 hi hz0 hz1 hz2 rfl (by decide) _ _ _ rfl (hown.alloc _) ⟨wr.heap.size, 0, none⟩ 1 1 [Value.int .u8 ((X : Int) % 256)] rfl rfl G1.out g2 h63 (by omega) hBr ?_); intro v1 w1 hown1 hgrow1 _ hat1; have hgrew1 := Grew.app (d := u0) hgrew hgrow1 hat1; clear hgrow1 hat1)
          go_ret
          exact ⟨v1, rfl, app_done (q := 1) (p := 0) hown1 (cells1 Hrl.out HX.out) Hrl.out (by have := HT2.out; simpa using this) (by omega), hgrew1⟩
        · have G1 := Lib.hid (news_of_new wr [Value.int .u8 (IntKind.u16.wrap (X : Int) / 256 % 256), Value.int .u8 (IntKind.u16.wrap (X : Int) % 256)] 5)
          have g2 : ∀ u ∈ [Value.int .u8 (IntKind.u16.wrap (X : Int) / 256 % 256), Value.int .u8 (IntKind.u16.wrap (X : Int) % 256)], u.oneCell' = true := by simp [Value.oneCell']
          have hBr : B ≤ (wr.alloc (.cells #[Value.int .u8 (IntKind.u16.wrap (X : Int) / 256 % 256), Value.int .u8 (IntKind.u16.wrap (X : Int) % 256)] 5)).heap.size := by have := hgrew.grown.size; simp; omega
          have h63 : n + D.length + 2 ≤ maxLen := by unfold maxLen; omega
          go_wp2_with (at_builtin; go_must (refine wpList_append_own_at _ rfl _ _ 23 rfl B 5 i0 (.int .u8 0) 1 1 Tryd.underlying23 hi hz0 hz1 hz2 rfl (by decide) _ _ _ rfl (hown.alloc _) ⟨wr.heap.size, 0, none⟩ 2 2 [Value.int .u8 (IntKind.u16.wrap (X : Int) / 256 % 256), Value.int .u8 (IntKind.u16.wrap (X : Int) % 256)] rfl rfl G1.out g2 h63 (by omega) hBr ?_); intro v1 w1 hown1 hgrow1 _ hat1; have hgrew1 := Grew.app (d := u0) hgrew hgrow1 hat1; clear hgrow1 hat1)
          go_ret
          exact ⟨v1, rfl, app_done (q := 2) (p := 0) hown1 (cells2 Hrl.out HX.out) Hrl.out (by have := HT2.out; simpa using this) (by omega), hgrew1⟩
        · have G1 := Lib.hid (news_of_new wr [Value.int .u8 (IntKind.u16.wrap ((X : Int) / 256) / 256 % 256), Value.int .u8 (IntKind.u16.wrap ((X : Int) / 256) % 256), Value.int .u8 ((X : Int) % 256)] 5)
          have g2 : ∀ u ∈ [Value.int .u8 (IntKind.u16.wrap ((X : Int) / 256) / 256 % 256), Value.int .u8 (IntKind.u16.wrap ((X : Int) / 256) % 256), Value.int .u8 ((X : Int) % 256)], u.oneCell' = true := by simp [Value.oneCell']
          have hBr : B ≤ (wr.alloc (.cells #[Value.int .u8 (IntKind.u16.wrap ((X : Int) / 256) / 256 % 256), Value.int .u8 (IntKind.u16.wrap ((X : Int) / 256) % 256), Value.int .u8 ((X : Int) % 256)] 5)).heap.size := by have := hgrew.grown.size; simp; omega
          have h63 : n + D.length + 3 ≤ maxLen := by unfold maxLen; omega
          go_wp2_with (at_builtin; go_must (refine wpList_append_own_at _ rfl _ _ 23 rfl B 5 i0 (.int .u8 0) 1 1 Tryd.underlying23 hi hz0 hz1 hz2 rfl (by decide) _ _ _ rfl (hown.alloc _) ⟨wr.heap.size, 0, none⟩ 3 3 [Value.int .u8 (IntKind.u16.wrap ((X : Int) / 256) / 256 % 256), Value.int .u8 (IntKind.u16.wrap ((X : Int) / 256) % 256), Value.int .u8 ((X : Int) % 256)] rfl rfl G1.out g2 h63 (by omega) hBr ?_); intro v1 w1 hown1 hgrow1 _ hat1; have hgrew1 := Grew.app (d := u0) hgrew hgrow1 hat1; clear hgrow1 hat1)
          go_ret
          exact ⟨v1, rfl, app_done (q := 3) (p := 0) hown1 (cells3 Hrl.out HX.out) Hrl.out (by have := HT2.out; simpa using this) (by omega), hgrew1⟩
      · obtain ⟨o, ho⟩ : ∃ o, m % 8 = o := ⟨_, rfl⟩
        obtain ⟨pd, hpd⟩ : ∃ pd, 8 - o = pd := ⟨_, rfl⟩
        have hpd7 : 1 ≤ pd ∧ pd ≤ 7 := by omega
        have ho1 : (m : Int) % 8 = (o : Int) := by omega
        have ho2 : (8 : Int) - (o : Int) = (pd : Int) := by omega
        have hov0 : decide ((0 : Int) < (o : Int)) = true := by simp; omega
        have Hpd := Lib.hid hpd
        have Ho := Lib.hid ho
        clear hpd ho hov
        have hx := or_pad (X := X) hpd7 Hpd.out
        have HX' := Lib.hid (HP.stepX_bits (L := pd) (C := 2 ^ pd - 1) Hrl.out HX.out (by have := Nat.two_pow_pos pd; omega) (by omega))
        rw [HP.bitsOf_ones] at HX'
        have HTn : Hid (HP.tbits s.data.toList ++ List.replicate pd true = HP.unpack D ++ (r ++ List.replicate pd true)) := by
          have := HT2.out
          show HP.tbits s.data.toList ++ List.replicate pd true = _
          rw [this, List.append_assoc]
        have Hrn : Hid ((r ++ List.replicate pd true).length = m + pd) := by
          have h1 := Hrl.out
          show (r ++ List.replicate pd true).length = m + pd
          rw [List.length_append, List.length_replicate, h1]
        generalize r ++ List.replicate pd true = r' at *
        generalize HP.stepX X pd (2 ^ pd - 1) = Z at *
        have hq : m + pd = 8 ∨ m + pd = 16 ∨ m + pd = 24 ∨ m + pd = 32 := by have := Ho.out; have := Hpd.out; omega
        clear HX HT2 Hrl HL Ho Hpd
        rcases hq with hq | hq | hq | hq
        · have hq2 : (m : Int) + (pd : Int) = 8 := by omega
          rw [hq] at HX' Hrn
          clear hq
          have G1 := Lib.hid (news_of_new wr [Value.int .u8 ((Z : Int) % 256)] 5)
          have g2 : ∀ u ∈ [Value.int .u8 ((Z : Int) % 256)], u.oneCell' = true := by simp [Value.oneCell']
          have hBr : B ≤ (wr.alloc (.cells #[Value.int .u8 ((Z : Int) % 256)] 5)).heap.size := by have := hgrew.grown.size; simp; omega
          have h63 : n + D.length + 1 ≤ maxLen := by unfold maxLen; omega
          go_wp2_with (at_builtin; go_must (refine wpList_append_own_at _ rfl _ _ 23 rfl B 5 i0 (.int .u8 0) 1 1 Tryd.underlying23 hi hz0 hz1 hz2 rfl (by decide) _ _ _ rfl (hown.alloc _) ⟨wr.heap.size, 0, none⟩ 1 1 [Value.int .u8 ((Z : Int) % 256)] rfl rfl G1.out g2 h63 (by omega) hBr ?_); intro v1 w1 hown1 hgrow1 _ hat1; have hgrew1 := Grew.app (d := u0) hgrew hgrow1 hat1; clear hgrow1 hat1)
          go_ret
          exact ⟨v1, rfl, app_done (q := 1) (p := pd) hown1 (cells1 Hrn.out HX'.out) Hrn.out HTn.out (by omega), hgrew1⟩
        · have hq2 : (m : Int) + (pd : Int) = 16 := by omega
          rw [hq] at HX' Hrn
          clear hq
          have G1 := Lib.hid (news_of_new wr [Value.int .u8 (IntKind.u16.wrap (Z : Int) / 256 % 256), Value.int .u8 (IntKind.u16.wrap (Z : Int) % 256)] 5)
          have g2 : ∀ u ∈ [Value.int .u8 (IntKind.u16.wrap (Z : Int) / 256 % 256), Value.int .u8 (IntKind.u16.wrap (Z : Int) % 256)], u.oneCell' = true := by simp [Value.oneCell']
          have hBr : B ≤ (wr.alloc (.cells #[Value.int .u8 (IntKind.u16.wrap (Z : Int) / 256 % 256), Value.int .u8 (IntKind.u16.wrap (Z : Int) % 256)] 5)).heap.size := by have := hgrew.grown.size; simp; omega
          have h63 : n + D.length + 2 ≤ maxLen := by unfold maxLen; omega
          go_wp2_with (at_builtin; go_must (refine wpList_append_own_at _ rfl _ _ 23 rfl B 5 i0 (.int .u8 0) 1 1 Tryd.underlying23 hi hz0 hz1 hz2 rfl (by decide) _ _ _ rfl (hown.alloc _) ⟨wr.heap.size, 0, none⟩ 2 2 [Value.int .u8 (IntKind.u16.wrap (Z : Int) / 256 % 256), Value.int .u8 (IntKind.u16.wrap (Z : Int) % 256)] rfl rfl G1.out g2 h63 (by omega) hBr ?_); intro v1 w1 hown1 hgrow1 _ hat1; have hgrew1 := Grew.app (d := u0) hgrew hgrow1 hat1; clear hgrow1 hat1)
          go_ret
          exact ⟨v1, rfl, app_done (q := 2) (p := pd) hown1 (cells2 Hrn.out HX'.out) Hrn.out HTn.out (by omega), hgrew1⟩
        · have hq2 : (m : Int) + (pd : Int) = 24 := by omega
          rw [hq] at HX' Hrn
          clear hq
          have G1 := Lib.hid (news_of_new wr [Value.int .u8 (IntKind.u16.wrap ((Z : Int) / 256) / 256 % 256), Value.int .u8 (IntKind.u16.wrap ((Z : Int) / 256) % 256), Value.int .u8 ((Z : Int) % 256)] 5)
          have g2 : ∀ u ∈ [Value.int .u8 (IntKind.u16.wrap ((Z : Int) / 256) / 256 % 256), Value.int .u8 (IntKind.u16.wrap ((Z : Int) / 256) % 256), Value.int .u8 ((Z : Int) % 256)], u.oneCell' = true := by simp [Value.oneCell']
          have hBr : B ≤ (wr.alloc (.cells #[Value.int .u8 (IntKind.u16.wrap ((Z : Int) / 256) / 256 % 256), Value.int .u8 (IntKind.u16.wrap ((Z : Int) / 256) % 256), Value.int .u8 ((Z : Int) % 256)] 5)).heap.size := by have := hgrew.grown.size; simp; omega
          have h63 : n + D.length + 3 ≤ maxLen := by unfold maxLen; omega
          go_wp2_with (at_builtin; go_must (refine wpList_append_own_at _ rfl _ _ 23 rfl B 5 i0 (.int .u8 0) 1 1 Tryd.underlying23 hi hz0 hz1 hz2 rfl (by decide) _ _ _ rfl (hown.alloc _) ⟨wr.heap.size, 0, none⟩ 3 3 [Value.int .u8 (IntKind.u16.wrap ((Z : Int) / 256) / 256 % 256), Value.int .u8 (IntKind.u16.wrap ((Z : Int) / 256) % 256), Value.int .u8 ((Z : Int) % 256)] rfl rfl G1.out g2 h63 (by omega) hBr ?_); intro v1 w1 hown1 hgrow1 _ hat1; have hgrew1 := Grew.app (d := u0) hgrew hgrow1 hat1; clear hgrow1 hat1)
          go_ret
          exact ⟨v1, rfl, app_done (q := 3) (p := pd) hown1 (cells3 Hrn.out HX'.out) Hrn.out HTn.out (by omega), hgrew1⟩
        · have hq2 : (m : Int) + (pd : Int) = 32 := by omega
          rw [hq] at HX' Hrn
          clear hq
          have hY : (Z : Int) % 4294967296 = ((Z % 2 ^ 32 : Nat) : Int) := by simp
          generalize Z % 2 ^ 32 = Y at *
          have G1 := Lib.hid (news_of_new wr [Value.int .u8 ((Y : Int) / 16777216), Value.int .u8 ((Y : Int) / 65536 % 256), Value.int .u8 ((Y : Int) / 256 % 256), Value.int .u8 ((Y : Int) % 256)] 5)
          have g2 : ∀ u ∈ [Value.int .u8 ((Y : Int) / 16777216), Value.int .u8 ((Y : Int) / 65536 % 256), Value.int .u8 ((Y : Int) / 256 % 256), Value.int .u8 ((Y : Int) % 256)], u.oneCell' = true := by simp [Value.oneCell']
          have hBr : B ≤ (wr.alloc (.cells #[Value.int .u8 ((Y : Int) / 16777216), Value.int .u8 ((Y : Int) / 65536 % 256), Value.int .u8 ((Y : Int) / 256 % 256), Value.int .u8 ((Y : Int) % 256)] 5)).heap.size := by have := hgrew.grown.size; simp; omega
          have h63 : n + D.length + 4 ≤ maxLen := by unfold maxLen; omega
          go_wp2_with (at_builtin; go_must (refine wpList_append_own_at _ rfl _ _ 23 rfl B 5 i0 (.int .u8 0) 1 1 Tryd.underlying23 hi hz0 hz1 hz2 rfl (by decide) _ _ _ rfl (hown.alloc _) ⟨wr.heap.size, 0, none⟩ 4 4 [Value.int .u8 ((Y : Int) / 16777216), Value.int .u8 ((Y : Int) / 65536 % 256), Value.int .u8 ((Y : Int) / 256 % 256), Value.int .u8 ((Y : Int) % 256)] rfl rfl G1.out g2 h63 (by omega) hBr ?_); intro v1 w1 hown1 hgrow1 _ hat1; have hgrew1 := Grew.app (d := u0) hgrew hgrow1 hat1; clear hgrow1 hat1)
          go_ret
          exact ⟨v1, rfl, app_done (q := 4) (p := pd) hown1 (cells4 Hrn.out HX'.out) Hrn.out HTn.out (by omega), hgrew1⟩
end Go.Proofs.YtnemkaiaieomfaaDoor
