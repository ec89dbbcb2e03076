/-
  Contracts of the sink's Write at an empty sink, of HuffmanDecode and of impl.HuffmanWrite.
-/
import Derived.Test.YtnemkaiaieomfaaDoorHText
import Derived.Test.YtnemkaiaieomfaaDoorSame
namespace Go.Proofs.YtnemkaiaieomfaaDoor
open Go.ChangeShapes Go.WideShapes Go.ChangeAt Go.RowKit

theorem Buffer_Bytes (B b : Nat) (bs : List Value) (w : World) (h : Lib.IsBuffer 57 5 B b bs w) :
    Calls Tryd.prog 20 #[.pointer (some ⟨b, 0, none⟩)] w fun e w' => ∃ v, e = .returned v ∧ w'.ownsRow B 5 1 v bs.length bs ∧ ∃ n, w' = w.drewN n := Any.Buffer_Bytes lays183 B b bs w h

/-- A sink: what it took, and how many calls there were. -/
def SinkAt (B b : Nat) (t : List UInt8) (k : Nat) (w : World) : Prop :=
  ∃ a cap, w.heap[b]? = some (.cells #[.slice a t.length cap, .int .i64 (k : Nat)] 45 (0, 0)) ∧ w.ownsRow B 5 1 (.slice a t.length cap) t.length (Lib.byteCells t)

set_option maxRecDepth 100000 in
theorem sinkWrite_any (B b : Nat) (sa : Option Addr) (cap : Nat) (t : List UInt8) (w : World) (hB : B ≤ b) (hbB : b < w.heap.size) (hs : w.heap[b]? = some (.cells #[.slice none 0 0, .int .i64 0] 45 (0, 0)))
    (hsrc : SrcAny sa cap t w) (hn : t.length ≤ 1073741824) :
    Calls Tryd.prog 45 #[.pointer (some ⟨b, 0, none⟩), .slice sa t.length cap] w fun e w' => e = .returned (.tuple #[.int .i64 (t.length : Nat), .nilIface]) ∧ SinkAt B b t 1 w' ∧ Below B w w' := by
  have c0 : w.cell? ⟨b, 0, none⟩ = some (.slice none 0 0) := by rw [Lib.cell_of_heap hs]; rfl
  have c1 : w.cell? ⟨b, 1, none⟩ = some (.int .i64 0) := by rw [Lib.cell_of_heap hs]; rfl
  have f0 := Lib.frozen_of_heap hs
  have Hs := Lib.hid hs
  clear hs
  rcases hsrc with ⟨rfl, rfl, rfl⟩ | ⟨ad, rfl, hcells⟩
  · go_enter Tryd.func45, Tryd.ntmps45
    go_wp2_with fail
    go_ret2
    refine ⟨by simp, ⟨none, 0, ?_, World.ownsRow_nil _ _ _ _⟩, ((Below.refl _ _).setCell (p := ⟨b, 0, none⟩) hB _).setCell (p := ⟨b, 1, none⟩) hB _⟩
    rw [Lib.heap_setCell_same (Lib.heap_setCell_same Hs.out _) _]
    rfl
  · obtain ⟨i0, hi, hz0, hz1, hz2⟩ := info_parts infoU8
    have Hcells := Lib.hid hcells
    clear hcells
    go_enter Tryd.func45, Tryd.ntmps45
    go_wp2_with (at_builtin; go_must (refine wpList_append_own_at _ rfl _ _ 23 rfl B 5 i0 (.int .u8 0) 1 1 Tryd.underlying23 hi hz0 hz1 hz2 rfl (by decide) (.slice none 0 0) 0 [] rfl (World.ownsRow_nil w _ _ _) ad t.length cap (Lib.byteCells t) rfl (by rw [byteCells_len, Nat.mul_one]) Hcells.out (Lib.byteCells_one _) (by unfold maxLen; omega) (by omega) (Nat.le_trans hB (Nat.le_of_lt hbB)) ?_); intro v1 w1 hown1 hgrow1 _ hat1; rw [Nat.zero_add, List.nil_append] at hown1; obtain ⟨sb, cb, rfl⟩ := ownsRow_form hown1; have hs1 := (hgrow1.block b hbB (by simp [Value.ownBlock])).trans Hs.out; have d0 := Lib.cell_of_heap hs1 0; have d1 := Lib.cell_of_heap hs1 1; have g0 := Lib.frozen_of_heap hs1; have Hs1 := Lib.hid hs1; have Hown1 := Lib.hid hown1; have Hg1 := Lib.hid hgrow1; have Hat1 := Lib.hid hat1; clear hs1 hown1 hgrow1 hat1 c0 c1 f0; rw [show ((#[Value.slice none 0 0, .int .i64 0] : Array Value))[0]? = some (.slice none 0 0) from rfl] at d0; rw [show ((#[Value.slice none 0 0, .int .i64 0] : Array Value))[1]? = some (.int .i64 0) from rfl] at d1)
    go_ret2
    have hne : (Value.slice sb t.length cb).ownBlock ≠ some b := by
      rcases Hat1.out with e | e
      · rw [e]; simp [Value.ownBlock]
      · rw [e]; intro h; injection h with h; omega
    refine ⟨rfl, ⟨sb, cb, ?_, ownsRow_setCell_other (ownsRow_setCell_other Hown1.out (a := ⟨b, 0, none⟩) hne _) (a := ⟨b, 1, none⟩) hne _⟩, ?_⟩
    · rw [Lib.heap_setCell_same (Lib.heap_setCell_same Hs1.out _) _]
      rfl
    · exact ((((Below.refl _ _).grown Hg1.out (Nat.le_trans hB (Nat.le_of_lt hbB)) (fun k hk => by cases hk)).setCell (p := ⟨b, 0, none⟩) hB _).setCell (p := ⟨b, 1, none⟩) hB _)

theorem nil_ahead (a : Addr) (w : World) : (nilAhead 203 43 (.pointer (some a)) "Write").run Tryd.prog w = .ok (some false) w := by kernel_rfl
theorem method_write (a : Addr) (w : World) : (method 203 43 (.pointer (some a)) "Write").run Tryd.prog w = .ok (45, .pointer (some a)) w := by kernel_rfl

theorem srcAny_of_own {w : World} {B cap : Nat} {sa : Option Addr} {v : List UInt8} (h : w.ownsRow B 5 1 (.slice sa v.length cap) v.length (Lib.byteCells v)) : SrcAny sa cap v w := by
  rcases h.2 with ⟨e, hn⟩ | ⟨g, cap', cur, e, _, hg, _, _, hcs, htk⟩
  · injection e with e1 e2 e3
    exact Or.inl ⟨e1, e3, List.eq_nil_of_length_eq_zero hn⟩
  · injection e with e1 _ _
    refine Or.inr ⟨_, e1, fun q u hu => ?_⟩
    rw [show (⟨g, 0, none⟩ : Addr).add q = ⟨g, q, none⟩ by rw [Lib.addr_add, Nat.zero_add], Lib.cell_of_heap hg, ← Array.getElem?_toList]
    have hq : q < v.length := by
      have := (List.getElem?_eq_some_iff.1 hu).1
      rwa [byteCells_len] at this
    have h1 : (cur.toList.take (v.length * 1))[q]? = (Lib.byteCells v)[q]? := by rw [htk]
    rw [List.getElem?_take, if_pos (by omega)] at h1
    rw [h1, hu]
theorem nbits_ge (l : List UInt8) : 5 * l.length ≤ HP.nbits l := by
  induction l with
  | nil => simp
  | cons c l ih =>
    have := (HP.bounds c).1
    simp [HP.nbits] at ih ⊢
    omega
theorem hdec_le {v t : List UInt8} (h : HP.hdec v = some t) : 5 * t.length ≤ 8 * v.length := by
  have h1 := HP.length_henc t
  rw [HP.henc_hdec h] at h1
  have h2 := nbits_ge t
  unfold HP.hencLen at h1
  omega

/-- How HuffmanDecode ends. -/
def WriteEnds (B b : Nat) (ev : Value) : Option (List UInt8) → Ending → World → Prop
  | some t, e, w' => e = .returned (.tuple #[.int .i64 (t.length : Nat), .nilIface]) ∧ SinkAt B b t 1 w'
  | none, e, w' => e = .returned (.tuple #[.int .i64 0, ev]) ∧ w'.heap[b]? = some (.cells #[.slice none 0 0, .int .i64 0] 45 (0, 0))

set_option maxHeartbeats 1000000 in
set_option maxRecDepth 100000 in
theorem huffDecode_any (B b cap : Nat) (sa : Option Addr) (v : List UInt8) (tn : TypeId) (pv : Value) (w : World) (hB : B ≤ b) (hs : w.heap[b]? = some (.cells #[.slice none 0 0, .int .i64 0] 45 (0, 0)))
    (hv : v.length ≤ 134217728) (hsrc : Src w.heap.size sa v w) (hl : LenTab w) (hc : CodeTab w) (he : w.cell? ⟨2, 0, none⟩ = some (.iface tn pv)) :
    Calls Tryd.prog 17 #[.iface 43 (.pointer (some ⟨b, 0, none⟩)), .slice sa v.length cap] w fun e w' => WriteEnds B b (.iface tn pv) (HP.hdec v) e w' ∧ Below B w w' := by
  have hG : 2 < w.heap.size := World.block_lt_of_cell? w ⟨2, 0, none⟩ he
  have hbB := Lib.lt_of_heap hs
  have Hl := Lib.hid hl
  have Hc := Lib.hid hc
  have Hsrc := Lib.hid hsrc
  have He := Lib.hid he
  have Hs := Lib.hid hs
  clear hl hc hsrc he hs
  have hb0 : Below w.heap.size w (w.alloc (.cells #[.slice none 0 0, .int .i64 0, .int .i8 0] 57)) := (Below.refl _ _).alloc (Nat.le_refl _) _
  have hbuf : IsBuf w.heap.size w.heap.size [] (w.alloc (.cells #[.slice none 0 0, .int .i64 0, .int .i8 0] 57)) := Lib.fresh_isBuffer _ _ w
  have Hb0 := Lib.hid hb0
  have Hbuf := Lib.hid hbuf
  clear hb0 hbuf
  go_enter Tryd.func17, Tryd.ntmps17
  go_wp2_with fail
  refine (decode_any w.heap.size w.heap.size cap sa v (.iface tn pv) _ hv Hbuf.out (by simp) (Hsrc.out.below Hb0.out) (Hl.out.below Hb0.out (LenTab.lt Hl.out)) (Hc.out.below Hb0.out (CodeTab.lt Hc.out)) ((Hb0.out.cell (p := ⟨2, 0, none⟩) hG).trans He.out) hG).mono ?_
  rintro e w1 ⟨hend, hb1⟩
  have Hb1 := Lib.hid (Hb0.out.trans hb1)
  have Hs1 := Lib.hid ((Hb1.out.block b hbB).trans Hs.out)
  clear hb1
  cases hd : HP.hdec v with
  | none =>
    rw [hd] at hend
    obtain rfl : e = .returned (.iface tn pv) := hend
    go_wp2_with fail
    go_ret2
    exact ⟨by rw [hd]; exact ⟨rfl, Hs1.out⟩, Hb1.out.mono (by omega)⟩
  | some t =>
    rw [hd] at hend
    obtain ⟨rfl, hbuf⟩ : e = .returned .nilIface ∧ IsBuf w.heap.size w.heap.size t w1 := hend
    have Hbuf := Lib.hid hbuf
    have Hd := Lib.hid hd
    clear hbuf hd
    go_wp2_with fail
    have na := nil_ahead
    have nm := method_write
    go_region_with ((first
      | (go_at_call 20; refine (Buffer_Bytes w.heap.size w.heap.size (Lib.byteCells t) _ (by first | exact Hbuf.out | (repeat apply Lib.IsBuffer.drew; exact Hbuf.out))).mono ?_; rintro e w2 ⟨bv, rfl, hown, nq, rfl⟩; rw [byteCells_len] at hown; obtain ⟨ba, bc, rfl⟩ := ownsRow_form hown; have Hown := Lib.hid hown; clear hown)
      | (go_at_call 45; go_loud (refine (sinkWrite_any B b ba bc t _ hB (by simpa using Nat.lt_of_lt_of_le hbB Hb1.out.size) (by simpa using Hs1.out) (by exact srcAny_of_own (w := w1) Hown.out) (by have := hdec_le Hd.out; omega)).mono ?_; rintro e w3 ⟨rfl, hsink, hb3⟩; have Hsink := Lib.hid hsink; have Hb3 := Lib.hid hb3; clear hsink hb3))))
    all_goals
      go_wp2_with fail
      go_ret2
      have hd0 : Below B w1 (w1.drewN (1 + nq)) := ⟨rfl, rfl, rfl, Nat.le_refl _, fun _ _ => rfl⟩
      have hb9 : Below B w w3 := ((Hb1.out.mono (Nat.le_of_lt (Nat.lt_of_le_of_lt hB hbB))).trans hd0).trans Hb3.out
      have he9 : WriteEnds B b (.iface tn pv) (HP.hdec v) (.returned (.tuple #[.int .i64 (t.length : Nat), .nilIface])) w3 := by rw [Hd.out]; exact ⟨rfl, Hsink.out⟩
      exact ⟨he9, hb9⟩

/-- What HuffmanWrite tells. -/
def writeOf : Option (List UInt8) → Value
  | some t => .tuple #[.string ⟨t.toArray⟩, .int .i64 (t.length : Nat), .int .i64 1, .int .i64 0]
  | none => .tuple #[.string ByteArray.empty, .int .i64 0, .int .i64 0, .int .i64 2]

set_option maxRecDepth 100000 in
theorem write_any (cap : Nat) (sa : Option Addr) (v : List UInt8) (a : Addr) (w : World) (hv : v.length ≤ 134217728) (hsrc : SrcAny sa cap v w) (hl : LenTab w) (hc : CodeTab w)
    (he : w.cell? ⟨2, 0, none⟩ = some (.iface 85 (.pointer (some a)))) :
    Calls Tryd.prog 12 #[.slice sa v.length cap] w fun e w' => e = .returned (writeOf (HP.hdec v)) ∧ Below w.heap.size w w' := by
  have hG : 2 < w.heap.size := World.block_lt_of_cell? w ⟨2, 0, none⟩ he
  have Hl := Lib.hid hl
  have Hc := Lib.hid hc
  have He := Lib.hid he
  clear hl hc he
  have hb0 : Below w.heap.size w (w.alloc (.cells #[.slice none 0 0, .int .i64 0] 45)) := (Below.refl _ _).alloc (Nat.le_refl _) _
  have Hb0 := Lib.hid hb0
  clear hb0
  have key : ∀ (w1 : World) (sb : Option Addr) (cb : Nat), w1.ownsRow w.heap.size 5 1 (.slice sb v.length cb) v.length (Lib.byteCells v) → Below w.heap.size w w1 → w1.heap[w.heap.size]? = some (.cells #[.slice none 0 0, .int .i64 0] 45 (0, 0)) → ∀ Q : Ending → World → Prop,
      (∀ t w', HP.hdec v = some t → Below w.heap.size w w' → SinkAt w.heap.size w.heap.size t 1 w' → Q (.returned (.tuple #[.int .i64 (t.length : Nat), .nilIface])) w') →
      (∀ w', HP.hdec v = none → Below w.heap.size w w' → w'.heap[w.heap.size]? = some (.cells #[.slice none 0 0, .int .i64 0] 45 (0, 0)) → w'.cell? ⟨2, 0, none⟩ = some (.iface 85 (.pointer (some a))) → Q (.returned (.tuple #[.int .i64 0, .iface 85 (.pointer (some a))])) w') →
      Calls Tryd.prog 17 #[.iface 43 (.pointer (some ⟨w.heap.size, 0, none⟩)), .slice sb v.length cb] w1 Q := by
    intro w1 sb cb hown hb hs Q h1 h2
    have he1 := (hb.cell (p := ⟨2, 0, none⟩) hG).trans He.out
    refine (huffDecode_any w.heap.size w.heap.size cb sb v _ _ w1 (Nat.le_refl _) hs hv (src_of_own hown) (Hl.out.below hb (LenTab.lt Hl.out)) (Hc.out.below hb (CodeTab.lt Hc.out)) he1).mono ?_
    rintro e w' ⟨hend, hb'⟩
    cases hd : HP.hdec v with
    | none =>
      rw [hd] at hend
      obtain ⟨rfl, hs'⟩ := hend
      exact h2 w' hd (hb.trans hb') hs' (((hb.trans hb').cell (p := ⟨2, 0, none⟩) hG).trans He.out)
    | some t =>
      rw [hd] at hend
      obtain ⟨rfl, hs'⟩ := hend
      exact h1 t w' hd (hb.trans hb') hs'
  have fin1 : ∀ (t : List UInt8) (w' : World), SinkAt w.heap.size w.heap.size t 1 w' → ∃ sa cap, w'.cell? ⟨w.heap.size, 0, none⟩ = some (.slice sa t.length cap) ∧ w'.cell? ⟨w.heap.size, 1, none⟩ = some (.int .i64 1) ∧ ∀ n, (convert 23 9 (.slice sa t.length cap)).run Tryd.prog (w'.drewN n) = .ok (.string ⟨t.toArray⟩) (w'.drewN n) := by
    rintro t w' ⟨sa, cap, hh, hown⟩
    exact ⟨sa, cap, by rw [Lib.cell_of_heap hh]; rfl, by rw [Lib.cell_of_heap hh]; rfl, fun n => conv_bytes (w := w'.drewN n) (srcAny_of_own (w := w') hown)⟩
  have Hkey := Lib.hid key
  have Hfin := Lib.hid fin1
  clear key fin1
  rcases hsrc with ⟨rfl, rfl, rfl⟩ | ⟨ad, rfl, hcells⟩
  · go_enter Tryd.func12, Tryd.ntmps12
    go_wp2_with fail
    refine Hkey.out _ none 0 (World.ownsRow_nil _ _ _ _) Hb0.out (heap_alloc_new w _) _ ?_ ?_
    · intro t w' hd hb' hs'
      obtain ⟨sc, cc, d0, d1, kc⟩ := Hfin.out t w' hs'
      have Hd := Lib.hid hd
      have Hb' := Lib.hid hb'
      clear hd hb' hs'
      go_wp2_with fail
      refine (codeOf_nil _).mono ?_
      rintro e w2 ⟨rfl, rfl⟩
      go_wp2_with fail
      go_quiet (fail)
      go_wp2_with fail
      refine bodyPost_ret (v := writeOf (some t)) (by simp [results, Tryd.results12, go_sem, writeOf]) rfl ?_
      exact ⟨by rw [Hd.out], Hb'.out.trans ⟨rfl, rfl, rfl, Nat.le_refl _, fun _ _ => rfl⟩⟩
    · intro w' hd hb' hs' he'
      have d0 := Lib.cell_of_heap hs' 0
      have d1 := Lib.cell_of_heap hs' 1
      rw [show ((#[Value.slice none 0 0, .int .i64 0] : Array Value))[0]? = some (.slice none 0 0) from rfl] at d0
      rw [show ((#[Value.slice none 0 0, .int .i64 0] : Array Value))[1]? = some (.int .i64 0) from rfl] at d1
      have Hd := Lib.hid hd
      have Hb' := Lib.hid hb'
      have hlt := Lib.lt_of_heap hs'
      clear hd hb' hs'
      go_wp2_with fail
      refine (codeOf_inv a _ he').mono ?_
      rintro e w2 ⟨rfl, hb2⟩
      have e0 := (hb2.cell (p := ⟨w.heap.size, 0, none⟩) hlt).trans d0
      have e1 := (hb2.cell (p := ⟨w.heap.size, 1, none⟩) hlt).trans d1
      have Hb2 := Lib.hid (Hb'.out.trans (hb2.mono Hb'.out.size))
      clear hb2 d0 d1
      go_wp2_with fail
      have kc : ∀ n, (convert 23 9 (.slice none 0 0)).run Tryd.prog (w2.drewN n) = .ok (.string ByteArray.empty) (w2.drewN n) := fun n => conv_bytes (w := w2.drewN n) (v := []) (Or.inl ⟨rfl, rfl, rfl⟩)
      go_quiet (fail)
      go_wp2_with fail
      refine bodyPost_ret (v := writeOf none) (by simp [results, Tryd.results12, go_sem, writeOf]) rfl ?_
      exact ⟨by rw [Hd.out], Hb2.out.trans ⟨rfl, rfl, rfl, Nat.le_refl _, fun _ _ => rfl⟩⟩
  · obtain ⟨i0, hi, hz0, hz1, hz2⟩ := info_parts infoU8
    have hcells0 : ∀ q u, (Lib.byteCells v)[q]? = some u → (w.alloc (.cells #[.slice none 0 0, .int .i64 0] 45)).cell? (ad.add q) = some u := fun q u hu => by
      have h0 := hcells q u hu
      exact (Hb0.out.cell (World.block_lt_of_cell? w _ h0)).trans h0
    have Hcells := Lib.hid hcells0
    clear hcells hcells0
    go_enter Tryd.func12, Tryd.ntmps12
    go_wp2_with (at_builtin; go_must (refine wpList_append_own_at _ rfl _ _ 23 rfl w.heap.size 5 i0 (.int .u8 0) 1 1 Tryd.underlying23 hi hz0 hz1 hz2 rfl (by decide) (.slice none 0 0) 0 [] rfl (World.ownsRow_nil _ _ _ _) ad v.length cap (Lib.byteCells v) rfl (by rw [byteCells_len, Nat.mul_one]) Hcells.out (Lib.byteCells_one _) (by unfold maxLen; omega) (by omega) (by simp) ?_); intro v1 w1 hown1 hgrow1 _ _; rw [Nat.zero_add, List.nil_append] at hown1; obtain ⟨sb, cb, rfl⟩ := ownsRow_form hown1; have Hs1 := Lib.hid ((hgrow1.block w.heap.size (by simp) (by simp [Value.ownBlock])).trans (heap_alloc_new w _)); have Hown1 := Lib.hid hown1; have Hb1 := Lib.hid (Hb0.out.grown hgrow1 (by simp) (fun k hk => by cases hk)); clear hown1 hgrow1)
    refine Hkey.out _ sb cb Hown1.out Hb1.out Hs1.out _ ?_ ?_
    · intro t w' hd hb' hs'
      obtain ⟨sc, cc, d0, d1, kc⟩ := Hfin.out t w' hs'
      have Hd := Lib.hid hd
      have Hb' := Lib.hid hb'
      clear hd hb' hs'
      go_wp2_with fail
      refine (codeOf_nil _).mono ?_
      rintro e w2 ⟨rfl, rfl⟩
      go_wp2_with fail
      go_quiet (fail)
      go_wp2_with fail
      refine bodyPost_ret (v := writeOf (some t)) (by simp [results, Tryd.results12, go_sem, writeOf]) rfl ?_
      exact ⟨by rw [Hd.out], Hb'.out.trans ⟨rfl, rfl, rfl, Nat.le_refl _, fun _ _ => rfl⟩⟩
    · intro w' hd hb' hs' he'
      have d0 := Lib.cell_of_heap hs' 0
      have d1 := Lib.cell_of_heap hs' 1
      rw [show ((#[Value.slice none 0 0, .int .i64 0] : Array Value))[0]? = some (.slice none 0 0) from rfl] at d0
      rw [show ((#[Value.slice none 0 0, .int .i64 0] : Array Value))[1]? = some (.int .i64 0) from rfl] at d1
      have Hd := Lib.hid hd
      have Hb' := Lib.hid hb'
      have hlt := Lib.lt_of_heap hs'
      clear hd hb' hs'
      go_wp2_with fail
      refine (codeOf_inv a _ he').mono ?_
      rintro e w2 ⟨rfl, hb2⟩
      have e0 := (hb2.cell (p := ⟨w.heap.size, 0, none⟩) hlt).trans d0
      have e1 := (hb2.cell (p := ⟨w.heap.size, 1, none⟩) hlt).trans d1
      have Hb2 := Lib.hid (Hb'.out.trans (hb2.mono Hb'.out.size))
      clear hb2 d0 d1
      go_wp2_with fail
      have kc : ∀ n, (convert 23 9 (.slice none 0 0)).run Tryd.prog (w2.drewN n) = .ok (.string ByteArray.empty) (w2.drewN n) := fun n => conv_bytes (w := w2.drewN n) (v := []) (Or.inl ⟨rfl, rfl, rfl⟩)
      go_quiet (fail)
      go_wp2_with fail
      refine bodyPost_ret (v := writeOf none) (by simp [results, Tryd.results12, go_sem, writeOf]) rfl ?_
      exact ⟨by rw [Hd.out], Hb2.out.trans ⟨rfl, rfl, rfl, Nat.le_refl _, fun _ _ => rfl⟩⟩
end Go.Proofs.YtnemkaiaieomfaaDoor
