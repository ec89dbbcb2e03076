/-
  Texts of this seat, one behind the other: VarInt, Conv, ReadStr, DecStr, Dec. What each one shows stands at its head. No condition.
-/
import Derived.Test.YtjdmaflkafmmpaaDoorMt1
import Derived.Deep.LoopGhost
import Derived.BigQuiet
import Derived.Deep.QuietTactic
import Derived.Laws.BytesArg
import Derived.RegionTactic
import Derived.StillTailTactics
import Derived.Deep.RegionWith
import Derived.Deep.RegionHeld3
import Derived.BigGuard
/-
  The contract of readVarInt.
-/
namespace Go.Proofs.YtjdmaflkafmmpaaDoor
open Go.ChangeShapes Go.WideShapes Go.ChangeAt Go.RowKit

/-- Bytes in block g from place o on. -/
structure Buf (w : World) (g o cap : Nat) (v : List UInt8) : Prop where
  fit : v.length ≤ cap
  most : cap ≤ maxLen
  cell : ∀ i (h : i < v.length), w.cell? ⟨g, o + i, none⟩ = some (.int .u8 (v[i].toNat : Nat))

theorem Buf.kept {w w' : World} {g o cap : Nat} {v : List UInt8} (h : Buf w g o cap v) (hk : v ≠ [] → w'.heap[g]? = w.heap[g]?) : Buf w' g o cap v :=
  ⟨h.fit, h.most, fun i hi => by
    rw [World.cell?_of_block (a := ⟨g, o + i, none⟩) (hk (fun e => by rw [e] at hi; exact absurd hi (Nat.not_lt_zero _)))]
    exact h.cell i hi⟩
theorem Buf.tail {w : World} {g o cap : Nat} {b : UInt8} {v : List UInt8} (h : Buf w g o cap (b :: v)) : Buf w g (o + 1) (cap - 1) v :=
  ⟨by have := h.fit; simp at this; omega, by have := h.most; omega, fun i hi => by
    have := h.cell (i + 1) (by simp; omega)
    rw [show o + 1 + i = o + (i + 1) by omega, this]
    rfl⟩
theorem Buf.nil {w : World} {g o cap : Nat} (h : cap ≤ maxLen) : Buf w g o cap [] := ⟨Nat.zero_le _, h, fun _ hi => absurd hi (Nat.not_lt_zero _)⟩
theorem Buf.head {w : World} {g o cap : Nat} {b : UInt8} {v : List UInt8} (h : Buf w g o cap (b :: v)) : w.cell? ⟨g, o, none⟩ = some (.int .u8 (b.toNat : Nat)) := h.cell 0 (by simp)

/-- The error that wraps a new text. -/
def codingErr (a : Addr) : Value := .iface 101 (.agg #[.iface 125 (.pointer (some a))])

/-- A new block of which nothing is frozen. -/
def Fresh (n : Nat) (w : World) (a : Addr) : Prop := n ≤ a.block ∧ ∃ ca ta, w.heap[a.block]? = some (.cells ca ta (0, 0))
theorem Fresh.mono {n m : Nat} {w : World} {a : Addr} (h : Fresh n w a) (hm : m ≤ n) : Fresh m w a := ⟨Nat.le_trans hm h.1, h.2⟩
theorem Fresh.of_heap {n : Nat} {w w' : World} {a : Addr} (h : Fresh n w a) (e : w'.heap[a.block]? = w.heap[a.block]?) : Fresh n w' a := by
  obtain ⟨hn, ca, ta, hc⟩ := h
  exact ⟨hn, ca, ta, e.trans hc⟩
theorem Fresh.setBelow {n : Nat} {w : World} {a b : Addr} (h : Fresh n w a) (hb : b.block < n) (u : Value) : Fresh n (w.setCell b u) a := h.of_heap (Below.heap_setCell _ _ _ _ (by have := h.1; omega))

/-- How readVarInt ends. -/
def VIEnds (n : Nat) (En : Value) (g : Nat) : HD.VI → Ending → World → Prop
  | .ok i rest, e, w' => ∃ o cap, e = .returned (.tuple #[.int .u64 (i : Nat), .slice (some ⟨g, o, none⟩) rest.length cap, .nilIface]) ∧ Buf w' g o cap rest
  | .more, e, _ => ∃ s, e = .returned (.tuple #[.int .u64 0, s, En])
  | .over, e, w' => ∃ s a, e = .returned (.tuple #[.int .u64 0, s, codingErr a]) ∧ Fresh n w' a

def lenOf : Value → Nat
  | .slice _ n _ => n
  | _ => 0

theorem and_u64 (b : Nat) (h : b < 256) : bits BinOp.and IntKind.u64 (b : Int) 15 = ((b % 16 : Nat) : Int) ∧ bits BinOp.and IntKind.u64 (b : Int) 31 = ((b % 32 : Nat) : Int) ∧ bits BinOp.and IntKind.u64 (b : Int) 63 = ((b % 64 : Nat) : Int) ∧ bits BinOp.and IntKind.u64 (b : Int) 127 = ((b % 128 : Nat) : Int) := by
  have key : ∀ b : Fin 256, bits BinOp.and IntKind.u64 (b.val : Int) 15 = ((b.val % 16 : Nat) : Int) ∧ bits BinOp.and IntKind.u64 (b.val : Int) 31 = ((b.val % 32 : Nat) : Int) ∧ bits BinOp.and IntKind.u64 (b.val : Int) 63 = ((b.val % 64 : Nat) : Int) ∧ bits BinOp.and IntKind.u64 (b.val : Int) 127 = ((b.val % 128 : Nat) : Int) := by decide +kernel
  exact key ⟨b, h⟩
theorem and_u8 (b : Nat) (h : b < 256) : bits BinOp.and IntKind.u8 (b : Int) 127 = ((b % 128 : Nat) : Int) ∧ bits BinOp.and IntKind.u8 (b : Int) 128 = if b < 128 then 0 else 128 := by
  have key : ∀ b : Fin 256, bits BinOp.and IntKind.u8 (b.val : Int) 127 = ((b.val % 128 : Nat) : Int) ∧ bits BinOp.and IntKind.u8 (b.val : Int) 128 = if b.val < 128 then 0 else 128 := by decide +kernel
  exact key ⟨b, h⟩

theorem sum_u64 {j k : Nat} (c : Nat) (hj : j < 255 + 2 ^ (7 * k)) (hk : k ≤ 8) : IntKind.u64.wrap ((j : Int) + IntKind.u64.wrap ((c : Int) % 128 * 2 ^ (7 * k))) = ((j + c % 128 * 2 ^ (7 * k) : Nat) : Int) := by
  have hp : 2 ^ (7 * k) ≤ 2 ^ 56 := Nat.pow_le_pow_right (by decide) (by omega)
  have h1 : c % 128 * 2 ^ (7 * k) ≤ 127 * 2 ^ 56 := Nat.mul_le_mul (by omega) hp
  have e : (c : Int) % 128 * 2 ^ (7 * k) = ((c % 128 * 2 ^ (7 * k) : Nat) : Int) := by simp
  rw [e]
  generalize c % 128 * 2 ^ (7 * k) = m at *
  generalize 2 ^ (7 * k) = q at *
  simp only [IntKind.wrap, IntKind.bits, IntKind.signed]
  simp
  omega

theorem errNew_any (s : ByteArray) (w : World) : Calls Tryd.prog 53 #[.string s] w fun e w' => (∃ a : Addr, e = .returned (.iface 125 (.pointer (some a))) ∧ Fresh w.heap.size w' a) ∧ Below w.heap.size w w' := by
  go_enter Tryd.func53, Tryd.ntmps53
  go_wp2
  go_ret
  exact ⟨⟨_, rfl, Nat.le_refl _, _, _, heap_alloc_new w _⟩, (Below.refl _ _).alloc (Nat.le_refl _) _⟩
theorem overflow_any (w : World) : Calls Tryd.prog 82 #[] w fun e w' => (∃ a : Addr, e = .returned (codingErr a) ∧ Fresh w.heap.size w' a) ∧ Below w.heap.size w w' := by
  go_enter Tryd.func82, Tryd.ntmps82
  go_wp2_with fail
  refine (errNew_any _ _).mono ?_
  rintro e w1 ⟨⟨a, rfl, ha⟩, hb⟩
  have Hb := Lib.hid hb
  clear hb
  go_wp2_with fail
  go_ret
  exact ⟨⟨a, rfl, ha⟩, Hb.out⟩

set_option maxHeartbeats 4000000 in
set_option maxRecDepth 100000 in
theorem varInt4 (En : Value) (g o cap : Nat) (v : List UInt8) (w : World) (hb : Buf w g o cap v) (he : w.cell? ⟨3, 0, none⟩ = some En) :
    Calls Tryd.prog 74 #[.int .u8 4, .slice (some ⟨g, o, none⟩) v.length cap] w fun e w' => VIEnds w.heap.size En g (HD.rvi 4 v) e w' ∧ Below w.heap.size w w' := by
  have hfit := hb.fit
  have hmost := hb.most
  unfold maxLen at hmost
  have HB := Lib.hid hb
  clear hb
  cases v with
  | nil =>
    go_enter Tryd.func74, Tryd.ntmps74
    go_wp2_with fail
    go_quiet (fail)
    go_wp2_with fail
    refine bodyPost_ret (v := .tuple #[.int .u64 0, .slice (some ⟨g, o, none⟩) 0 cap, En]) (by simp [results, Tryd.results74, go_sem]) rfl ?_
    exact ⟨⟨_, rfl⟩, (Below.refl _ _).trans ⟨rfl, rfl, rfl, Nat.le_refl _, fun _ _ => rfl⟩⟩
  | cons b p =>
    have hc := HB.out.head
    have hb256 := b.toNat_lt
    have hbI : (b.toNat : Int) < 256 := by omega
    have hand := (and_u64 b.toNat (by omega)).1
    have Htail := Lib.hid HB.out.tail
    have hp : HD.rvi 4 (b :: p) = if b.toNat % 16 < 15 then .ok (b.toNat % 16) p else HD.vcont p 15 0 := rfl
    have Hp := Lib.hid hp
    clear hp
    have hpl : p.length + 1 ≤ cap := by simpa using hfit
    clear hfit
    generalize HD.rvi 4 (b :: p) = R at *
    generalize hx : b.toNat % 16 = x at *
    have Hx := Lib.hid hx
    clear hx
    by_cases hlt : x < 15
    · have hltI : (x : Int) < 15 := by omega
      rw [if_pos hlt] at Hp
      by_cases hc1 : cap = 1
      · subst hc1
        obtain rfl : p = [] := List.eq_nil_of_length_eq_zero (by omega)
        go_enter Tryd.func74, Tryd.ntmps74
        go_wp2_with fail
        go_quiet (fail)
        go_wp2_with fail
        refine bodyPost_ret (v := .tuple #[.int .u64 (x : Nat), .slice (some ⟨g, o, none⟩) 0 0, .nilIface]) (by simp [results, Tryd.results74, go_sem]) rfl ?_
        rw [Hp.out]
        exact ⟨⟨o, 0, rfl, Buf.nil (Nat.zero_le _)⟩, (Below.refl _ _).trans ⟨rfl, rfl, rfl, Nat.le_refl _, fun _ _ => rfl⟩⟩
      · go_enter Tryd.func74, Tryd.ntmps74
        go_wp2_with fail
        go_quiet (fail)
        go_wp2_with fail
        refine bodyPost_ret (v := .tuple #[.int .u64 (x : Nat), .slice (some ⟨g, o + 1, none⟩) p.length (cap - 1), .nilIface]) (by simp [results, Tryd.results74, go_sem]) rfl ?_
        rw [Hp.out]
        exact ⟨⟨o + 1, cap - 1, rfl, Htail.out.kept fun _ => rfl⟩, (Below.refl _ _).trans ⟨rfl, rfl, rfl, Nat.le_refl _, fun _ _ => rfl⟩⟩
    · have hltI : ¬ (x : Int) < 15 := by omega
      have hx127 : x = 15 := by have := Hx.out; omega
      subst hx127
      rw [if_neg hlt] at Hp
      by_cases hc1 : cap = 1
      · subst hc1
        obtain rfl : p = [] := List.eq_nil_of_length_eq_zero (by omega)
        go_enter Tryd.func74, Tryd.ntmps74
        go_wp2_with fail
        go_loop [1, 4, 8] (fun s i m => ∃ (o1 cap1 k j : Nat) (q : List UInt8), s = .slice (some ⟨g, o1, none⟩) q.length cap1 ∧ Buf w g o1 cap1 q ∧ i = .int .u64 (j : Nat) ∧ m = .int .u64 ((7 * k : Nat)) ∧ HD.vcont q j (7 * k) = R ∧ j < 255 + 2 ^ (7 * k) ∧ k ≤ 8) (fun s _ _ => lenOf s)
        case atStart => exact ⟨o, 0, 0, 15, [], rfl, Buf.nil (Nat.zero_le _), rfl, rfl, Hp.out.symm, by decide, by decide⟩
        case round =>
          obtain ⟨o1, cap1, k, j, q, rfl, hbuf, rfl, rfl, hq, hj, hk⟩ := hrel
          have HQ := Lib.hid hq
          have HBq := Lib.hid hbuf
          have hf1 := hbuf.fit
          have hm1 := hbuf.most
          unfold maxLen at hm1
          clear hq hbuf
          cases q with
          | nil =>
            go_wp2_with fail
            go_quiet (fail)
            go_wp2_with fail
            refine bodyPost_ret (v := .tuple #[.int .u64 0, .slice (some ⟨g, o, none⟩) 1 1, En]) (by simp [results, Tryd.results74, go_sem]) rfl ?_
            rw [← HQ.out]
            exact ⟨⟨_, rfl⟩, (Below.refl _ _).trans ⟨rfl, rfl, rfl, Nat.le_refl _, fun _ _ => rfl⟩⟩
          | cons c q =>
            have hcc := HBq.out.head
            have hc256 : (c.toNat : Int) < 256 := by have := c.toNat_lt; omega
            obtain ⟨ha1, ha2⟩ := and_u8 c.toNat (by have := c.toNat_lt; omega)
            have hsum := sum_u64 c.toNat hj hk
            have hv : HD.vcont (c :: q) j (7 * k) = if c.toNat < 128 then .ok (j + c.toNat % 128 * 2 ^ (7 * k)) q else if 63 ≤ 7 * k + 7 then .over else HD.vcont q (j + c.toNat % 128 * 2 ^ (7 * k)) (7 * k + 7) := rfl
            have hJ : k ≤ 7 → j + c.toNat % 128 * 2 ^ (7 * k) < 255 + 2 ^ (7 * (k + 1)) := fun _ => by
              have h1 : c.toNat % 128 * 2 ^ (7 * k) ≤ 127 * 2 ^ (7 * k) := Nat.mul_le_mul_right _ (by omega)
              have e : 2 ^ (7 * (k + 1)) = 128 * 2 ^ (7 * k) := by rw [Nat.mul_add, Nat.pow_add, Nat.mul_comm]
              omega
            generalize j + c.toNat % 128 * 2 ^ (7 * k) = J at *
            rw [hv] at HQ
            clear hv
            have HJ := Lib.hid hJ
            clear hJ
            have hq1 : q.length + 1 ≤ cap1 := by simpa using hf1
            clear hf1
            by_cases hc2 : cap1 = 1
            · subst hc2
              obtain rfl : q = [] := List.eq_nil_of_length_eq_zero (by omega)
              by_cases hc128 : c.toNat < 128
              · rw [if_pos hc128] at ha2 HQ
                go_wp2_with fail
                refine bodyPost_ret (v := .tuple #[.int .u64 (J : Nat), .slice (some ⟨g, o1, none⟩) 0 0, .nilIface]) (by simp [results, Tryd.results74, go_sem]) rfl ?_
                rw [← HQ.out]
                exact ⟨⟨_, _, rfl, Buf.nil (Nat.zero_le _)⟩, Below.refl _ _⟩
              · rw [if_neg hc128] at ha2 HQ
                by_cases hk8 : 63 ≤ 7 * k + 7
                · rw [if_pos hk8] at HQ
                  have hk8I : (63 : Int) ≤ 7 * (k : Int) + 7 := by omega
                  go_wp2_with fail
                  refine (overflow_any _).mono ?_
                  rintro e w1 ⟨⟨a, rfl, ha⟩, hb1⟩
                  have Hb1 := Lib.hid hb1
                  clear hb1
                  go_wp2_with fail
                  refine bodyPost_ret (v := .tuple #[.int .u64 0, .slice (some ⟨g, o, none⟩) 1 1, codingErr a]) (by simp [results, Tryd.results74, go_sem]) rfl ?_
                  rw [← HQ.out]
                  exact ⟨⟨_, _, rfl, ha⟩, Hb1.out⟩
                · rw [if_neg hk8] at HQ
                  have hk8I : ¬ (63 : Int) ≤ 7 * (k : Int) + 7 := by omega
                  go_wp2_with fail
                  exact ⟨⟨_, _, k + 1, J, [], rfl, Buf.nil (Nat.zero_le _), rfl, by go_num, by rw [Nat.mul_add]; exact HQ.out, HJ.out (by omega), by omega⟩, by simp [lenOf]⟩
            · have HTl := Lib.hid HBq.out.tail
              by_cases hc128 : c.toNat < 128
              · rw [if_pos hc128] at ha2 HQ
                go_wp2_with fail
                refine bodyPost_ret (v := .tuple #[.int .u64 (J : Nat), .slice (some ⟨g, o1 + 1, none⟩) q.length (cap1 - 1), .nilIface]) (by simp [results, Tryd.results74, go_sem]) rfl ?_
                rw [← HQ.out]
                exact ⟨⟨_, _, rfl, HTl.out⟩, Below.refl _ _⟩
              · rw [if_neg hc128] at ha2 HQ
                by_cases hk8 : 63 ≤ 7 * k + 7
                · rw [if_pos hk8] at HQ
                  have hk8I : (63 : Int) ≤ 7 * (k : Int) + 7 := by omega
                  go_wp2_with fail
                  refine (overflow_any _).mono ?_
                  rintro e w1 ⟨⟨a, rfl, ha⟩, hb1⟩
                  have Hb1 := Lib.hid hb1
                  clear hb1
                  go_wp2_with fail
                  refine bodyPost_ret (v := .tuple #[.int .u64 0, .slice (some ⟨g, o, none⟩) 1 1, codingErr a]) (by simp [results, Tryd.results74, go_sem]) rfl ?_
                  rw [← HQ.out]
                  exact ⟨⟨_, _, rfl, ha⟩, Hb1.out⟩
                · rw [if_neg hk8] at HQ
                  have hk8I : ¬ (63 : Int) ≤ 7 * (k : Int) + 7 := by omega
                  go_wp2_with fail
                  exact ⟨⟨_, _, k + 1, J, q, rfl, HTl.out, rfl, by go_num, by rw [Nat.mul_add]; exact HQ.out, HJ.out (by omega), by omega⟩, by simp [lenOf]⟩
      · go_enter Tryd.func74, Tryd.ntmps74
        go_wp2_with fail
        go_loop [1, 4, 8] (fun s i m => ∃ (o1 cap1 k j : Nat) (q : List UInt8), s = .slice (some ⟨g, o1, none⟩) q.length cap1 ∧ Buf w g o1 cap1 q ∧ i = .int .u64 (j : Nat) ∧ m = .int .u64 ((7 * k : Nat)) ∧ HD.vcont q j (7 * k) = R ∧ j < 255 + 2 ^ (7 * k) ∧ k ≤ 8) (fun s _ _ => lenOf s)
        case atStart => exact ⟨o + 1, cap - 1, 0, 15, p, rfl, Htail.out, rfl, rfl, Hp.out.symm, by decide, by decide⟩
        case round =>
          obtain ⟨o1, cap1, k, j, q, rfl, hbuf, rfl, rfl, hq, hj, hk⟩ := hrel
          have HQ := Lib.hid hq
          have HBq := Lib.hid hbuf
          have hf1 := hbuf.fit
          have hm1 := hbuf.most
          unfold maxLen at hm1
          clear hq hbuf
          cases q with
          | nil =>
            go_wp2_with fail
            go_quiet (fail)
            go_wp2_with fail
            refine bodyPost_ret (v := .tuple #[.int .u64 0, .slice (some ⟨g, o, none⟩) (p.length + 1) cap, En]) (by simp [results, Tryd.results74, go_sem]) rfl ?_
            rw [← HQ.out]
            exact ⟨⟨_, rfl⟩, (Below.refl _ _).trans ⟨rfl, rfl, rfl, Nat.le_refl _, fun _ _ => rfl⟩⟩
          | cons c q =>
            have hcc := HBq.out.head
            have hc256 : (c.toNat : Int) < 256 := by have := c.toNat_lt; omega
            obtain ⟨ha1, ha2⟩ := and_u8 c.toNat (by have := c.toNat_lt; omega)
            have hsum := sum_u64 c.toNat hj hk
            have hv : HD.vcont (c :: q) j (7 * k) = if c.toNat < 128 then .ok (j + c.toNat % 128 * 2 ^ (7 * k)) q else if 63 ≤ 7 * k + 7 then .over else HD.vcont q (j + c.toNat % 128 * 2 ^ (7 * k)) (7 * k + 7) := rfl
            have hJ : k ≤ 7 → j + c.toNat % 128 * 2 ^ (7 * k) < 255 + 2 ^ (7 * (k + 1)) := fun _ => by
              have h1 : c.toNat % 128 * 2 ^ (7 * k) ≤ 127 * 2 ^ (7 * k) := Nat.mul_le_mul_right _ (by omega)
              have e : 2 ^ (7 * (k + 1)) = 128 * 2 ^ (7 * k) := by rw [Nat.mul_add, Nat.pow_add, Nat.mul_comm]
              omega
            generalize j + c.toNat % 128 * 2 ^ (7 * k) = J at *
            rw [hv] at HQ
            clear hv
            have HJ := Lib.hid hJ
            clear hJ
            have hq1 : q.length + 1 ≤ cap1 := by simpa using hf1
            clear hf1
            by_cases hc2 : cap1 = 1
            · subst hc2
              obtain rfl : q = [] := List.eq_nil_of_length_eq_zero (by omega)
              by_cases hc128 : c.toNat < 128
              · rw [if_pos hc128] at ha2 HQ
                go_wp2_with fail
                refine bodyPost_ret (v := .tuple #[.int .u64 (J : Nat), .slice (some ⟨g, o1, none⟩) 0 0, .nilIface]) (by simp [results, Tryd.results74, go_sem]) rfl ?_
                rw [← HQ.out]
                exact ⟨⟨_, _, rfl, Buf.nil (Nat.zero_le _)⟩, Below.refl _ _⟩
              · rw [if_neg hc128] at ha2 HQ
                by_cases hk8 : 63 ≤ 7 * k + 7
                · rw [if_pos hk8] at HQ
                  have hk8I : (63 : Int) ≤ 7 * (k : Int) + 7 := by omega
                  go_wp2_with fail
                  refine (overflow_any _).mono ?_
                  rintro e w1 ⟨⟨a, rfl, ha⟩, hb1⟩
                  have Hb1 := Lib.hid hb1
                  clear hb1
                  go_wp2_with fail
                  refine bodyPost_ret (v := .tuple #[.int .u64 0, .slice (some ⟨g, o, none⟩) (p.length + 1) cap, codingErr a]) (by simp [results, Tryd.results74, go_sem]) rfl ?_
                  rw [← HQ.out]
                  exact ⟨⟨_, _, rfl, ha⟩, Hb1.out⟩
                · rw [if_neg hk8] at HQ
                  have hk8I : ¬ (63 : Int) ≤ 7 * (k : Int) + 7 := by omega
                  go_wp2_with fail
                  exact ⟨⟨_, _, k + 1, J, [], rfl, Buf.nil (Nat.zero_le _), rfl, by go_num, by rw [Nat.mul_add]; exact HQ.out, HJ.out (by omega), by omega⟩, by simp [lenOf]⟩
            · have HTl := Lib.hid HBq.out.tail
              by_cases hc128 : c.toNat < 128
              · rw [if_pos hc128] at ha2 HQ
                go_wp2_with fail
                refine bodyPost_ret (v := .tuple #[.int .u64 (J : Nat), .slice (some ⟨g, o1 + 1, none⟩) q.length (cap1 - 1), .nilIface]) (by simp [results, Tryd.results74, go_sem]) rfl ?_
                rw [← HQ.out]
                exact ⟨⟨_, _, rfl, HTl.out⟩, Below.refl _ _⟩
              · rw [if_neg hc128] at ha2 HQ
                by_cases hk8 : 63 ≤ 7 * k + 7
                · rw [if_pos hk8] at HQ
                  have hk8I : (63 : Int) ≤ 7 * (k : Int) + 7 := by omega
                  go_wp2_with fail
                  refine (overflow_any _).mono ?_
                  rintro e w1 ⟨⟨a, rfl, ha⟩, hb1⟩
                  have Hb1 := Lib.hid hb1
                  clear hb1
                  go_wp2_with fail
                  refine bodyPost_ret (v := .tuple #[.int .u64 0, .slice (some ⟨g, o, none⟩) (p.length + 1) cap, codingErr a]) (by simp [results, Tryd.results74, go_sem]) rfl ?_
                  rw [← HQ.out]
                  exact ⟨⟨_, _, rfl, ha⟩, Hb1.out⟩
                · rw [if_neg hk8] at HQ
                  have hk8I : ¬ (63 : Int) ≤ 7 * (k : Int) + 7 := by omega
                  go_wp2_with fail
                  exact ⟨⟨_, _, k + 1, J, q, rfl, HTl.out, rfl, by go_num, by rw [Nat.mul_add]; exact HQ.out, HJ.out (by omega), by omega⟩, by simp [lenOf]⟩
set_option maxHeartbeats 4000000 in
set_option maxRecDepth 100000 in
theorem varInt5 (En : Value) (g o cap : Nat) (v : List UInt8) (w : World) (hb : Buf w g o cap v) (he : w.cell? ⟨3, 0, none⟩ = some En) :
    Calls Tryd.prog 74 #[.int .u8 5, .slice (some ⟨g, o, none⟩) v.length cap] w fun e w' => VIEnds w.heap.size En g (HD.rvi 5 v) e w' ∧ Below w.heap.size w w' := by
  have hfit := hb.fit
  have hmost := hb.most
  unfold maxLen at hmost
  have HB := Lib.hid hb
  clear hb
  cases v with
  | nil =>
    go_enter Tryd.func74, Tryd.ntmps74
    go_wp2_with fail
    go_quiet (fail)
    go_wp2_with fail
    refine bodyPost_ret (v := .tuple #[.int .u64 0, .slice (some ⟨g, o, none⟩) 0 cap, En]) (by simp [results, Tryd.results74, go_sem]) rfl ?_
    exact ⟨⟨_, rfl⟩, (Below.refl _ _).trans ⟨rfl, rfl, rfl, Nat.le_refl _, fun _ _ => rfl⟩⟩
  | cons b p =>
    have hc := HB.out.head
    have hb256 := b.toNat_lt
    have hbI : (b.toNat : Int) < 256 := by omega
    have hand := (and_u64 b.toNat (by omega)).2.1
    have Htail := Lib.hid HB.out.tail
    have hp : HD.rvi 5 (b :: p) = if b.toNat % 32 < 31 then .ok (b.toNat % 32) p else HD.vcont p 31 0 := rfl
    have Hp := Lib.hid hp
    clear hp
    have hpl : p.length + 1 ≤ cap := by simpa using hfit
    clear hfit
    generalize HD.rvi 5 (b :: p) = R at *
    generalize hx : b.toNat % 32 = x at *
    have Hx := Lib.hid hx
    clear hx
    by_cases hlt : x < 31
    · have hltI : (x : Int) < 31 := by omega
      rw [if_pos hlt] at Hp
      by_cases hc1 : cap = 1
      · subst hc1
        obtain rfl : p = [] := List.eq_nil_of_length_eq_zero (by omega)
        go_enter Tryd.func74, Tryd.ntmps74
        go_wp2_with fail
        go_quiet (fail)
        go_wp2_with fail
        refine bodyPost_ret (v := .tuple #[.int .u64 (x : Nat), .slice (some ⟨g, o, none⟩) 0 0, .nilIface]) (by simp [results, Tryd.results74, go_sem]) rfl ?_
        rw [Hp.out]
        exact ⟨⟨o, 0, rfl, Buf.nil (Nat.zero_le _)⟩, (Below.refl _ _).trans ⟨rfl, rfl, rfl, Nat.le_refl _, fun _ _ => rfl⟩⟩
      · go_enter Tryd.func74, Tryd.ntmps74
        go_wp2_with fail
        go_quiet (fail)
        go_wp2_with fail
        refine bodyPost_ret (v := .tuple #[.int .u64 (x : Nat), .slice (some ⟨g, o + 1, none⟩) p.length (cap - 1), .nilIface]) (by simp [results, Tryd.results74, go_sem]) rfl ?_
        rw [Hp.out]
        exact ⟨⟨o + 1, cap - 1, rfl, Htail.out.kept fun _ => rfl⟩, (Below.refl _ _).trans ⟨rfl, rfl, rfl, Nat.le_refl _, fun _ _ => rfl⟩⟩
    · have hltI : ¬ (x : Int) < 31 := by omega
      have hx127 : x = 31 := by have := Hx.out; omega
      subst hx127
      rw [if_neg hlt] at Hp
      by_cases hc1 : cap = 1
      · subst hc1
        obtain rfl : p = [] := List.eq_nil_of_length_eq_zero (by omega)
        go_enter Tryd.func74, Tryd.ntmps74
        go_wp2_with fail
        go_loop [1, 4, 8] (fun s i m => ∃ (o1 cap1 k j : Nat) (q : List UInt8), s = .slice (some ⟨g, o1, none⟩) q.length cap1 ∧ Buf w g o1 cap1 q ∧ i = .int .u64 (j : Nat) ∧ m = .int .u64 ((7 * k : Nat)) ∧ HD.vcont q j (7 * k) = R ∧ j < 255 + 2 ^ (7 * k) ∧ k ≤ 8) (fun s _ _ => lenOf s)
        case atStart => exact ⟨o, 0, 0, 31, [], rfl, Buf.nil (Nat.zero_le _), rfl, rfl, Hp.out.symm, by decide, by decide⟩
        case round =>
          obtain ⟨o1, cap1, k, j, q, rfl, hbuf, rfl, rfl, hq, hj, hk⟩ := hrel
          have HQ := Lib.hid hq
          have HBq := Lib.hid hbuf
          have hf1 := hbuf.fit
          have hm1 := hbuf.most
          unfold maxLen at hm1
          clear hq hbuf
          cases q with
          | nil =>
            go_wp2_with fail
            go_quiet (fail)
            go_wp2_with fail
            refine bodyPost_ret (v := .tuple #[.int .u64 0, .slice (some ⟨g, o, none⟩) 1 1, En]) (by simp [results, Tryd.results74, go_sem]) rfl ?_
            rw [← HQ.out]
            exact ⟨⟨_, rfl⟩, (Below.refl _ _).trans ⟨rfl, rfl, rfl, Nat.le_refl _, fun _ _ => rfl⟩⟩
          | cons c q =>
            have hcc := HBq.out.head
            have hc256 : (c.toNat : Int) < 256 := by have := c.toNat_lt; omega
            obtain ⟨ha1, ha2⟩ := and_u8 c.toNat (by have := c.toNat_lt; omega)
            have hsum := sum_u64 c.toNat hj hk
            have hv : HD.vcont (c :: q) j (7 * k) = if c.toNat < 128 then .ok (j + c.toNat % 128 * 2 ^ (7 * k)) q else if 63 ≤ 7 * k + 7 then .over else HD.vcont q (j + c.toNat % 128 * 2 ^ (7 * k)) (7 * k + 7) := rfl
            have hJ : k ≤ 7 → j + c.toNat % 128 * 2 ^ (7 * k) < 255 + 2 ^ (7 * (k + 1)) := fun _ => by
              have h1 : c.toNat % 128 * 2 ^ (7 * k) ≤ 127 * 2 ^ (7 * k) := Nat.mul_le_mul_right _ (by omega)
              have e : 2 ^ (7 * (k + 1)) = 128 * 2 ^ (7 * k) := by rw [Nat.mul_add, Nat.pow_add, Nat.mul_comm]
              omega
            generalize j + c.toNat % 128 * 2 ^ (7 * k) = J at *
            rw [hv] at HQ
            clear hv
            have HJ := Lib.hid hJ
            clear hJ
            have hq1 : q.length + 1 ≤ cap1 := by simpa using hf1
            clear hf1
            by_cases hc2 : cap1 = 1
            · subst hc2
              obtain rfl : q = [] := List.eq_nil_of_length_eq_zero (by omega)
              by_cases hc128 : c.toNat < 128
              · rw [if_pos hc128] at ha2 HQ
                go_wp2_with fail
                refine bodyPost_ret (v := .tuple #[.int .u64 (J : Nat), .slice (some ⟨g, o1, none⟩) 0 0, .nilIface]) (by simp [results, Tryd.results74, go_sem]) rfl ?_
                rw [← HQ.out]
                exact ⟨⟨_, _, rfl, Buf.nil (Nat.zero_le _)⟩, Below.refl _ _⟩
              · rw [if_neg hc128] at ha2 HQ
                by_cases hk8 : 63 ≤ 7 * k + 7
                · rw [if_pos hk8] at HQ
                  have hk8I : (63 : Int) ≤ 7 * (k : Int) + 7 := by omega
                  go_wp2_with fail
                  refine (overflow_any _).mono ?_
                  rintro e w1 ⟨⟨a, rfl, ha⟩, hb1⟩
                  have Hb1 := Lib.hid hb1
                  clear hb1
                  go_wp2_with fail
                  refine bodyPost_ret (v := .tuple #[.int .u64 0, .slice (some ⟨g, o, none⟩) 1 1, codingErr a]) (by simp [results, Tryd.results74, go_sem]) rfl ?_
                  rw [← HQ.out]
                  exact ⟨⟨_, _, rfl, ha⟩, Hb1.out⟩
                · rw [if_neg hk8] at HQ
                  have hk8I : ¬ (63 : Int) ≤ 7 * (k : Int) + 7 := by omega
                  go_wp2_with fail
                  exact ⟨⟨_, _, k + 1, J, [], rfl, Buf.nil (Nat.zero_le _), rfl, by go_num, by rw [Nat.mul_add]; exact HQ.out, HJ.out (by omega), by omega⟩, by simp [lenOf]⟩
            · have HTl := Lib.hid HBq.out.tail
              by_cases hc128 : c.toNat < 128
              · rw [if_pos hc128] at ha2 HQ
                go_wp2_with fail
                refine bodyPost_ret (v := .tuple #[.int .u64 (J : Nat), .slice (some ⟨g, o1 + 1, none⟩) q.length (cap1 - 1), .nilIface]) (by simp [results, Tryd.results74, go_sem]) rfl ?_
                rw [← HQ.out]
                exact ⟨⟨_, _, rfl, HTl.out⟩, Below.refl _ _⟩
              · rw [if_neg hc128] at ha2 HQ
                by_cases hk8 : 63 ≤ 7 * k + 7
                · rw [if_pos hk8] at HQ
                  have hk8I : (63 : Int) ≤ 7 * (k : Int) + 7 := by omega
                  go_wp2_with fail
                  refine (overflow_any _).mono ?_
                  rintro e w1 ⟨⟨a, rfl, ha⟩, hb1⟩
                  have Hb1 := Lib.hid hb1
                  clear hb1
                  go_wp2_with fail
                  refine bodyPost_ret (v := .tuple #[.int .u64 0, .slice (some ⟨g, o, none⟩) 1 1, codingErr a]) (by simp [results, Tryd.results74, go_sem]) rfl ?_
                  rw [← HQ.out]
                  exact ⟨⟨_, _, rfl, ha⟩, Hb1.out⟩
                · rw [if_neg hk8] at HQ
                  have hk8I : ¬ (63 : Int) ≤ 7 * (k : Int) + 7 := by omega
                  go_wp2_with fail
                  exact ⟨⟨_, _, k + 1, J, q, rfl, HTl.out, rfl, by go_num, by rw [Nat.mul_add]; exact HQ.out, HJ.out (by omega), by omega⟩, by simp [lenOf]⟩
      · go_enter Tryd.func74, Tryd.ntmps74
        go_wp2_with fail
        go_loop [1, 4, 8] (fun s i m => ∃ (o1 cap1 k j : Nat) (q : List UInt8), s = .slice (some ⟨g, o1, none⟩) q.length cap1 ∧ Buf w g o1 cap1 q ∧ i = .int .u64 (j : Nat) ∧ m = .int .u64 ((7 * k : Nat)) ∧ HD.vcont q j (7 * k) = R ∧ j < 255 + 2 ^ (7 * k) ∧ k ≤ 8) (fun s _ _ => lenOf s)
        case atStart => exact ⟨o + 1, cap - 1, 0, 31, p, rfl, Htail.out, rfl, rfl, Hp.out.symm, by decide, by decide⟩
        case round =>
          obtain ⟨o1, cap1, k, j, q, rfl, hbuf, rfl, rfl, hq, hj, hk⟩ := hrel
          have HQ := Lib.hid hq
          have HBq := Lib.hid hbuf
          have hf1 := hbuf.fit
          have hm1 := hbuf.most
          unfold maxLen at hm1
          clear hq hbuf
          cases q with
          | nil =>
            go_wp2_with fail
            go_quiet (fail)
            go_wp2_with fail
            refine bodyPost_ret (v := .tuple #[.int .u64 0, .slice (some ⟨g, o, none⟩) (p.length + 1) cap, En]) (by simp [results, Tryd.results74, go_sem]) rfl ?_
            rw [← HQ.out]
            exact ⟨⟨_, rfl⟩, (Below.refl _ _).trans ⟨rfl, rfl, rfl, Nat.le_refl _, fun _ _ => rfl⟩⟩
          | cons c q =>
            have hcc := HBq.out.head
            have hc256 : (c.toNat : Int) < 256 := by have := c.toNat_lt; omega
            obtain ⟨ha1, ha2⟩ := and_u8 c.toNat (by have := c.toNat_lt; omega)
            have hsum := sum_u64 c.toNat hj hk
            have hv : HD.vcont (c :: q) j (7 * k) = if c.toNat < 128 then .ok (j + c.toNat % 128 * 2 ^ (7 * k)) q else if 63 ≤ 7 * k + 7 then .over else HD.vcont q (j + c.toNat % 128 * 2 ^ (7 * k)) (7 * k + 7) := rfl
            have hJ : k ≤ 7 → j + c.toNat % 128 * 2 ^ (7 * k) < 255 + 2 ^ (7 * (k + 1)) := fun _ => by
              have h1 : c.toNat % 128 * 2 ^ (7 * k) ≤ 127 * 2 ^ (7 * k) := Nat.mul_le_mul_right _ (by omega)
              have e : 2 ^ (7 * (k + 1)) = 128 * 2 ^ (7 * k) := by rw [Nat.mul_add, Nat.pow_add, Nat.mul_comm]
              omega
            generalize j + c.toNat % 128 * 2 ^ (7 * k) = J at *
            rw [hv] at HQ
            clear hv
            have HJ := Lib.hid hJ
            clear hJ
            have hq1 : q.length + 1 ≤ cap1 := by simpa using hf1
            clear hf1
            by_cases hc2 : cap1 = 1
            · subst hc2
              obtain rfl : q = [] := List.eq_nil_of_length_eq_zero (by omega)
              by_cases hc128 : c.toNat < 128
              · rw [if_pos hc128] at ha2 HQ
                go_wp2_with fail
                refine bodyPost_ret (v := .tuple #[.int .u64 (J : Nat), .slice (some ⟨g, o1, none⟩) 0 0, .nilIface]) (by simp [results, Tryd.results74, go_sem]) rfl ?_
                rw [← HQ.out]
                exact ⟨⟨_, _, rfl, Buf.nil (Nat.zero_le _)⟩, Below.refl _ _⟩
              · rw [if_neg hc128] at ha2 HQ
                by_cases hk8 : 63 ≤ 7 * k + 7
                · rw [if_pos hk8] at HQ
                  have hk8I : (63 : Int) ≤ 7 * (k : Int) + 7 := by omega
                  go_wp2_with fail
                  refine (overflow_any _).mono ?_
                  rintro e w1 ⟨⟨a, rfl, ha⟩, hb1⟩
                  have Hb1 := Lib.hid hb1
                  clear hb1
                  go_wp2_with fail
                  refine bodyPost_ret (v := .tuple #[.int .u64 0, .slice (some ⟨g, o, none⟩) (p.length + 1) cap, codingErr a]) (by simp [results, Tryd.results74, go_sem]) rfl ?_
                  rw [← HQ.out]
                  exact ⟨⟨_, _, rfl, ha⟩, Hb1.out⟩
                · rw [if_neg hk8] at HQ
                  have hk8I : ¬ (63 : Int) ≤ 7 * (k : Int) + 7 := by omega
                  go_wp2_with fail
                  exact ⟨⟨_, _, k + 1, J, [], rfl, Buf.nil (Nat.zero_le _), rfl, by go_num, by rw [Nat.mul_add]; exact HQ.out, HJ.out (by omega), by omega⟩, by simp [lenOf]⟩
            · have HTl := Lib.hid HBq.out.tail
              by_cases hc128 : c.toNat < 128
              · rw [if_pos hc128] at ha2 HQ
                go_wp2_with fail
                refine bodyPost_ret (v := .tuple #[.int .u64 (J : Nat), .slice (some ⟨g, o1 + 1, none⟩) q.length (cap1 - 1), .nilIface]) (by simp [results, Tryd.results74, go_sem]) rfl ?_
                rw [← HQ.out]
                exact ⟨⟨_, _, rfl, HTl.out⟩, Below.refl _ _⟩
              · rw [if_neg hc128] at ha2 HQ
                by_cases hk8 : 63 ≤ 7 * k + 7
                · rw [if_pos hk8] at HQ
                  have hk8I : (63 : Int) ≤ 7 * (k : Int) + 7 := by omega
                  go_wp2_with fail
                  refine (overflow_any _).mono ?_
                  rintro e w1 ⟨⟨a, rfl, ha⟩, hb1⟩
                  have Hb1 := Lib.hid hb1
                  clear hb1
                  go_wp2_with fail
                  refine bodyPost_ret (v := .tuple #[.int .u64 0, .slice (some ⟨g, o, none⟩) (p.length + 1) cap, codingErr a]) (by simp [results, Tryd.results74, go_sem]) rfl ?_
                  rw [← HQ.out]
                  exact ⟨⟨_, _, rfl, ha⟩, Hb1.out⟩
                · rw [if_neg hk8] at HQ
                  have hk8I : ¬ (63 : Int) ≤ 7 * (k : Int) + 7 := by omega
                  go_wp2_with fail
                  exact ⟨⟨_, _, k + 1, J, q, rfl, HTl.out, rfl, by go_num, by rw [Nat.mul_add]; exact HQ.out, HJ.out (by omega), by omega⟩, by simp [lenOf]⟩
set_option maxHeartbeats 4000000 in
set_option maxRecDepth 100000 in
theorem varInt6 (En : Value) (g o cap : Nat) (v : List UInt8) (w : World) (hb : Buf w g o cap v) (he : w.cell? ⟨3, 0, none⟩ = some En) :
    Calls Tryd.prog 74 #[.int .u8 6, .slice (some ⟨g, o, none⟩) v.length cap] w fun e w' => VIEnds w.heap.size En g (HD.rvi 6 v) e w' ∧ Below w.heap.size w w' := by
  have hfit := hb.fit
  have hmost := hb.most
  unfold maxLen at hmost
  have HB := Lib.hid hb
  clear hb
  cases v with
  | nil =>
    go_enter Tryd.func74, Tryd.ntmps74
    go_wp2_with fail
    go_quiet (fail)
    go_wp2_with fail
    refine bodyPost_ret (v := .tuple #[.int .u64 0, .slice (some ⟨g, o, none⟩) 0 cap, En]) (by simp [results, Tryd.results74, go_sem]) rfl ?_
    exact ⟨⟨_, rfl⟩, (Below.refl _ _).trans ⟨rfl, rfl, rfl, Nat.le_refl _, fun _ _ => rfl⟩⟩
  | cons b p =>
    have hc := HB.out.head
    have hb256 := b.toNat_lt
    have hbI : (b.toNat : Int) < 256 := by omega
    have hand := (and_u64 b.toNat (by omega)).2.2.1
    have Htail := Lib.hid HB.out.tail
    have hp : HD.rvi 6 (b :: p) = if b.toNat % 64 < 63 then .ok (b.toNat % 64) p else HD.vcont p 63 0 := rfl
    have Hp := Lib.hid hp
    clear hp
    have hpl : p.length + 1 ≤ cap := by simpa using hfit
    clear hfit
    generalize HD.rvi 6 (b :: p) = R at *
    generalize hx : b.toNat % 64 = x at *
    have Hx := Lib.hid hx
    clear hx
    by_cases hlt : x < 63
    · have hltI : (x : Int) < 63 := by omega
      rw [if_pos hlt] at Hp
      by_cases hc1 : cap = 1
      · subst hc1
        obtain rfl : p = [] := List.eq_nil_of_length_eq_zero (by omega)
        go_enter Tryd.func74, Tryd.ntmps74
        go_wp2_with fail
        go_quiet (fail)
        go_wp2_with fail
        refine bodyPost_ret (v := .tuple #[.int .u64 (x : Nat), .slice (some ⟨g, o, none⟩) 0 0, .nilIface]) (by simp [results, Tryd.results74, go_sem]) rfl ?_
        rw [Hp.out]
        exact ⟨⟨o, 0, rfl, Buf.nil (Nat.zero_le _)⟩, (Below.refl _ _).trans ⟨rfl, rfl, rfl, Nat.le_refl _, fun _ _ => rfl⟩⟩
      · go_enter Tryd.func74, Tryd.ntmps74
        go_wp2_with fail
        go_quiet (fail)
        go_wp2_with fail
        refine bodyPost_ret (v := .tuple #[.int .u64 (x : Nat), .slice (some ⟨g, o + 1, none⟩) p.length (cap - 1), .nilIface]) (by simp [results, Tryd.results74, go_sem]) rfl ?_
        rw [Hp.out]
        exact ⟨⟨o + 1, cap - 1, rfl, Htail.out.kept fun _ => rfl⟩, (Below.refl _ _).trans ⟨rfl, rfl, rfl, Nat.le_refl _, fun _ _ => rfl⟩⟩
    · have hltI : ¬ (x : Int) < 63 := by omega
      have hx127 : x = 63 := by have := Hx.out; omega
      subst hx127
      rw [if_neg hlt] at Hp
      by_cases hc1 : cap = 1
      · subst hc1
        obtain rfl : p = [] := List.eq_nil_of_length_eq_zero (by omega)
        go_enter Tryd.func74, Tryd.ntmps74
        go_wp2_with fail
        go_loop [1, 4, 8] (fun s i m => ∃ (o1 cap1 k j : Nat) (q : List UInt8), s = .slice (some ⟨g, o1, none⟩) q.length cap1 ∧ Buf w g o1 cap1 q ∧ i = .int .u64 (j : Nat) ∧ m = .int .u64 ((7 * k : Nat)) ∧ HD.vcont q j (7 * k) = R ∧ j < 255 + 2 ^ (7 * k) ∧ k ≤ 8) (fun s _ _ => lenOf s)
        case atStart => exact ⟨o, 0, 0, 63, [], rfl, Buf.nil (Nat.zero_le _), rfl, rfl, Hp.out.symm, by decide, by decide⟩
        case round =>
          obtain ⟨o1, cap1, k, j, q, rfl, hbuf, rfl, rfl, hq, hj, hk⟩ := hrel
          have HQ := Lib.hid hq
          have HBq := Lib.hid hbuf
          have hf1 := hbuf.fit
          have hm1 := hbuf.most
          unfold maxLen at hm1
          clear hq hbuf
          cases q with
          | nil =>
            go_wp2_with fail
            go_quiet (fail)
            go_wp2_with fail
            refine bodyPost_ret (v := .tuple #[.int .u64 0, .slice (some ⟨g, o, none⟩) 1 1, En]) (by simp [results, Tryd.results74, go_sem]) rfl ?_
            rw [← HQ.out]
            exact ⟨⟨_, rfl⟩, (Below.refl _ _).trans ⟨rfl, rfl, rfl, Nat.le_refl _, fun _ _ => rfl⟩⟩
          | cons c q =>
            have hcc := HBq.out.head
            have hc256 : (c.toNat : Int) < 256 := by have := c.toNat_lt; omega
            obtain ⟨ha1, ha2⟩ := and_u8 c.toNat (by have := c.toNat_lt; omega)
            have hsum := sum_u64 c.toNat hj hk
            have hv : HD.vcont (c :: q) j (7 * k) = if c.toNat < 128 then .ok (j + c.toNat % 128 * 2 ^ (7 * k)) q else if 63 ≤ 7 * k + 7 then .over else HD.vcont q (j + c.toNat % 128 * 2 ^ (7 * k)) (7 * k + 7) := rfl
            have hJ : k ≤ 7 → j + c.toNat % 128 * 2 ^ (7 * k) < 255 + 2 ^ (7 * (k + 1)) := fun _ => by
              have h1 : c.toNat % 128 * 2 ^ (7 * k) ≤ 127 * 2 ^ (7 * k) := Nat.mul_le_mul_right _ (by omega)
              have e : 2 ^ (7 * (k + 1)) = 128 * 2 ^ (7 * k) := by rw [Nat.mul_add, Nat.pow_add, Nat.mul_comm]
              omega
            generalize j + c.toNat % 128 * 2 ^ (7 * k) = J at *
            rw [hv] at HQ
            clear hv
            have HJ := Lib.hid hJ
            clear hJ
            have hq1 : q.length + 1 ≤ cap1 := by simpa using hf1
            clear hf1
            by_cases hc2 : cap1 = 1
            · subst hc2
              obtain rfl : q = [] := List.eq_nil_of_length_eq_zero (by omega)
              by_cases hc128 : c.toNat < 128
              · rw [if_pos hc128] at ha2 HQ
                go_wp2_with fail
                refine bodyPost_ret (v := .tuple #[.int .u64 (J : Nat), .slice (some ⟨g, o1, none⟩) 0 0, .nilIface]) (by simp [results, Tryd.results74, go_sem]) rfl ?_
                rw [← HQ.out]
                exact ⟨⟨_, _, rfl, Buf.nil (Nat.zero_le _)⟩, Below.refl _ _⟩
              · rw [if_neg hc128] at ha2 HQ
                by_cases hk8 : 63 ≤ 7 * k + 7
                · rw [if_pos hk8] at HQ
                  have hk8I : (63 : Int) ≤ 7 * (k : Int) + 7 := by omega
                  go_wp2_with fail
                  refine (overflow_any _).mono ?_
                  rintro e w1 ⟨⟨a, rfl, ha⟩, hb1⟩
                  have Hb1 := Lib.hid hb1
                  clear hb1
                  go_wp2_with fail
                  refine bodyPost_ret (v := .tuple #[.int .u64 0, .slice (some ⟨g, o, none⟩) 1 1, codingErr a]) (by simp [results, Tryd.results74, go_sem]) rfl ?_
                  rw [← HQ.out]
                  exact ⟨⟨_, _, rfl, ha⟩, Hb1.out⟩
                · rw [if_neg hk8] at HQ
                  have hk8I : ¬ (63 : Int) ≤ 7 * (k : Int) + 7 := by omega
                  go_wp2_with fail
                  exact ⟨⟨_, _, k + 1, J, [], rfl, Buf.nil (Nat.zero_le _), rfl, by go_num, by rw [Nat.mul_add]; exact HQ.out, HJ.out (by omega), by omega⟩, by simp [lenOf]⟩
            · have HTl := Lib.hid HBq.out.tail
              by_cases hc128 : c.toNat < 128
              · rw [if_pos hc128] at ha2 HQ
                go_wp2_with fail
                refine bodyPost_ret (v := .tuple #[.int .u64 (J : Nat), .slice (some ⟨g, o1 + 1, none⟩) q.length (cap1 - 1), .nilIface]) (by simp [results, Tryd.results74, go_sem]) rfl ?_
                rw [← HQ.out]
                exact ⟨⟨_, _, rfl, HTl.out⟩, Below.refl _ _⟩
              · rw [if_neg hc128] at ha2 HQ
                by_cases hk8 : 63 ≤ 7 * k + 7
                · rw [if_pos hk8] at HQ
                  have hk8I : (63 : Int) ≤ 7 * (k : Int) + 7 := by omega
                  go_wp2_with fail
                  refine (overflow_any _).mono ?_
                  rintro e w1 ⟨⟨a, rfl, ha⟩, hb1⟩
                  have Hb1 := Lib.hid hb1
                  clear hb1
                  go_wp2_with fail
                  refine bodyPost_ret (v := .tuple #[.int .u64 0, .slice (some ⟨g, o, none⟩) 1 1, codingErr a]) (by simp [results, Tryd.results74, go_sem]) rfl ?_
                  rw [← HQ.out]
                  exact ⟨⟨_, _, rfl, ha⟩, Hb1.out⟩
                · rw [if_neg hk8] at HQ
                  have hk8I : ¬ (63 : Int) ≤ 7 * (k : Int) + 7 := by omega
                  go_wp2_with fail
                  exact ⟨⟨_, _, k + 1, J, q, rfl, HTl.out, rfl, by go_num, by rw [Nat.mul_add]; exact HQ.out, HJ.out (by omega), by omega⟩, by simp [lenOf]⟩
      · go_enter Tryd.func74, Tryd.ntmps74
        go_wp2_with fail
        go_loop [1, 4, 8] (fun s i m => ∃ (o1 cap1 k j : Nat) (q : List UInt8), s = .slice (some ⟨g, o1, none⟩) q.length cap1 ∧ Buf w g o1 cap1 q ∧ i = .int .u64 (j : Nat) ∧ m = .int .u64 ((7 * k : Nat)) ∧ HD.vcont q j (7 * k) = R ∧ j < 255 + 2 ^ (7 * k) ∧ k ≤ 8) (fun s _ _ => lenOf s)
        case atStart => exact ⟨o + 1, cap - 1, 0, 63, p, rfl, Htail.out, rfl, rfl, Hp.out.symm, by decide, by decide⟩
        case round =>
          obtain ⟨o1, cap1, k, j, q, rfl, hbuf, rfl, rfl, hq, hj, hk⟩ := hrel
          have HQ := Lib.hid hq
          have HBq := Lib.hid hbuf
          have hf1 := hbuf.fit
          have hm1 := hbuf.most
          unfold maxLen at hm1
          clear hq hbuf
          cases q with
          | nil =>
            go_wp2_with fail
            go_quiet (fail)
            go_wp2_with fail
            refine bodyPost_ret (v := .tuple #[.int .u64 0, .slice (some ⟨g, o, none⟩) (p.length + 1) cap, En]) (by simp [results, Tryd.results74, go_sem]) rfl ?_
            rw [← HQ.out]
            exact ⟨⟨_, rfl⟩, (Below.refl _ _).trans ⟨rfl, rfl, rfl, Nat.le_refl _, fun _ _ => rfl⟩⟩
          | cons c q =>
            have hcc := HBq.out.head
            have hc256 : (c.toNat : Int) < 256 := by have := c.toNat_lt; omega
            obtain ⟨ha1, ha2⟩ := and_u8 c.toNat (by have := c.toNat_lt; omega)
            have hsum := sum_u64 c.toNat hj hk
            have hv : HD.vcont (c :: q) j (7 * k) = if c.toNat < 128 then .ok (j + c.toNat % 128 * 2 ^ (7 * k)) q else if 63 ≤ 7 * k + 7 then .over else HD.vcont q (j + c.toNat % 128 * 2 ^ (7 * k)) (7 * k + 7) := rfl
            have hJ : k ≤ 7 → j + c.toNat % 128 * 2 ^ (7 * k) < 255 + 2 ^ (7 * (k + 1)) := fun _ => by
              have h1 : c.toNat % 128 * 2 ^ (7 * k) ≤ 127 * 2 ^ (7 * k) := Nat.mul_le_mul_right _ (by omega)
              have e : 2 ^ (7 * (k + 1)) = 128 * 2 ^ (7 * k) := by rw [Nat.mul_add, Nat.pow_add, Nat.mul_comm]
              omega
            generalize j + c.toNat % 128 * 2 ^ (7 * k) = J at *
            rw [hv] at HQ
            clear hv
            have HJ := Lib.hid hJ
            clear hJ
            have hq1 : q.length + 1 ≤ cap1 := by simpa using hf1
            clear hf1
            by_cases hc2 : cap1 = 1
            · subst hc2
              obtain rfl : q = [] := List.eq_nil_of_length_eq_zero (by omega)
              by_cases hc128 : c.toNat < 128
              · rw [if_pos hc128] at ha2 HQ
                go_wp2_with fail
                refine bodyPost_ret (v := .tuple #[.int .u64 (J : Nat), .slice (some ⟨g, o1, none⟩) 0 0, .nilIface]) (by simp [results, Tryd.results74, go_sem]) rfl ?_
                rw [← HQ.out]
                exact ⟨⟨_, _, rfl, Buf.nil (Nat.zero_le _)⟩, Below.refl _ _⟩
              · rw [if_neg hc128] at ha2 HQ
                by_cases hk8 : 63 ≤ 7 * k + 7
                · rw [if_pos hk8] at HQ
                  have hk8I : (63 : Int) ≤ 7 * (k : Int) + 7 := by omega
                  go_wp2_with fail
                  refine (overflow_any _).mono ?_
                  rintro e w1 ⟨⟨a, rfl, ha⟩, hb1⟩
                  have Hb1 := Lib.hid hb1
                  clear hb1
                  go_wp2_with fail
                  refine bodyPost_ret (v := .tuple #[.int .u64 0, .slice (some ⟨g, o, none⟩) (p.length + 1) cap, codingErr a]) (by simp [results, Tryd.results74, go_sem]) rfl ?_
                  rw [← HQ.out]
                  exact ⟨⟨_, _, rfl, ha⟩, Hb1.out⟩
                · rw [if_neg hk8] at HQ
                  have hk8I : ¬ (63 : Int) ≤ 7 * (k : Int) + 7 := by omega
                  go_wp2_with fail
                  exact ⟨⟨_, _, k + 1, J, [], rfl, Buf.nil (Nat.zero_le _), rfl, by go_num, by rw [Nat.mul_add]; exact HQ.out, HJ.out (by omega), by omega⟩, by simp [lenOf]⟩
            · have HTl := Lib.hid HBq.out.tail
              by_cases hc128 : c.toNat < 128
              · rw [if_pos hc128] at ha2 HQ
                go_wp2_with fail
                refine bodyPost_ret (v := .tuple #[.int .u64 (J : Nat), .slice (some ⟨g, o1 + 1, none⟩) q.length (cap1 - 1), .nilIface]) (by simp [results, Tryd.results74, go_sem]) rfl ?_
                rw [← HQ.out]
                exact ⟨⟨_, _, rfl, HTl.out⟩, Below.refl _ _⟩
              · rw [if_neg hc128] at ha2 HQ
                by_cases hk8 : 63 ≤ 7 * k + 7
                · rw [if_pos hk8] at HQ
                  have hk8I : (63 : Int) ≤ 7 * (k : Int) + 7 := by omega
                  go_wp2_with fail
                  refine (overflow_any _).mono ?_
                  rintro e w1 ⟨⟨a, rfl, ha⟩, hb1⟩
                  have Hb1 := Lib.hid hb1
                  clear hb1
                  go_wp2_with fail
                  refine bodyPost_ret (v := .tuple #[.int .u64 0, .slice (some ⟨g, o, none⟩) (p.length + 1) cap, codingErr a]) (by simp [results, Tryd.results74, go_sem]) rfl ?_
                  rw [← HQ.out]
                  exact ⟨⟨_, _, rfl, ha⟩, Hb1.out⟩
                · rw [if_neg hk8] at HQ
                  have hk8I : ¬ (63 : Int) ≤ 7 * (k : Int) + 7 := by omega
                  go_wp2_with fail
                  exact ⟨⟨_, _, k + 1, J, q, rfl, HTl.out, rfl, by go_num, by rw [Nat.mul_add]; exact HQ.out, HJ.out (by omega), by omega⟩, by simp [lenOf]⟩
set_option maxHeartbeats 4000000 in
set_option maxRecDepth 100000 in
theorem varInt7 (En : Value) (g o cap : Nat) (v : List UInt8) (w : World) (hb : Buf w g o cap v) (he : w.cell? ⟨3, 0, none⟩ = some En) :
    Calls Tryd.prog 74 #[.int .u8 7, .slice (some ⟨g, o, none⟩) v.length cap] w fun e w' => VIEnds w.heap.size En g (HD.rvi 7 v) e w' ∧ Below w.heap.size w w' := by
  have hfit := hb.fit
  have hmost := hb.most
  unfold maxLen at hmost
  have HB := Lib.hid hb
  clear hb
  cases v with
  | nil =>
    go_enter Tryd.func74, Tryd.ntmps74
    go_wp2_with fail
    go_quiet (fail)
    go_wp2_with fail
    refine bodyPost_ret (v := .tuple #[.int .u64 0, .slice (some ⟨g, o, none⟩) 0 cap, En]) (by simp [results, Tryd.results74, go_sem]) rfl ?_
    exact ⟨⟨_, rfl⟩, (Below.refl _ _).trans ⟨rfl, rfl, rfl, Nat.le_refl _, fun _ _ => rfl⟩⟩
  | cons b p =>
    have hc := HB.out.head
    have hb256 := b.toNat_lt
    have hbI : (b.toNat : Int) < 256 := by omega
    have hand := (and_u64 b.toNat (by omega)).2.2.2
    have Htail := Lib.hid HB.out.tail
    have hp : HD.rvi 7 (b :: p) = if b.toNat % 128 < 127 then .ok (b.toNat % 128) p else HD.vcont p 127 0 := rfl
    have Hp := Lib.hid hp
    clear hp
    have hpl : p.length + 1 ≤ cap := by simpa using hfit
    clear hfit
    generalize HD.rvi 7 (b :: p) = R at *
    generalize hx : b.toNat % 128 = x at *
    have Hx := Lib.hid hx
    clear hx
    by_cases hlt : x < 127
    · have hltI : (x : Int) < 127 := by omega
      rw [if_pos hlt] at Hp
      by_cases hc1 : cap = 1
      · subst hc1
        obtain rfl : p = [] := List.eq_nil_of_length_eq_zero (by omega)
        go_enter Tryd.func74, Tryd.ntmps74
        go_wp2_with fail
        go_quiet (fail)
        go_wp2_with fail
        refine bodyPost_ret (v := .tuple #[.int .u64 (x : Nat), .slice (some ⟨g, o, none⟩) 0 0, .nilIface]) (by simp [results, Tryd.results74, go_sem]) rfl ?_
        rw [Hp.out]
        exact ⟨⟨o, 0, rfl, Buf.nil (Nat.zero_le _)⟩, (Below.refl _ _).trans ⟨rfl, rfl, rfl, Nat.le_refl _, fun _ _ => rfl⟩⟩
      · go_enter Tryd.func74, Tryd.ntmps74
        go_wp2_with fail
        go_quiet (fail)
        go_wp2_with fail
        refine bodyPost_ret (v := .tuple #[.int .u64 (x : Nat), .slice (some ⟨g, o + 1, none⟩) p.length (cap - 1), .nilIface]) (by simp [results, Tryd.results74, go_sem]) rfl ?_
        rw [Hp.out]
        exact ⟨⟨o + 1, cap - 1, rfl, Htail.out.kept fun _ => rfl⟩, (Below.refl _ _).trans ⟨rfl, rfl, rfl, Nat.le_refl _, fun _ _ => rfl⟩⟩
    · have hltI : ¬ (x : Int) < 127 := by omega
      have hx127 : x = 127 := by have := Hx.out; omega
      subst hx127
      rw [if_neg hlt] at Hp
      by_cases hc1 : cap = 1
      · subst hc1
        obtain rfl : p = [] := List.eq_nil_of_length_eq_zero (by omega)
        go_enter Tryd.func74, Tryd.ntmps74
        go_wp2_with fail
        go_loop [1, 4, 8] (fun s i m => ∃ (o1 cap1 k j : Nat) (q : List UInt8), s = .slice (some ⟨g, o1, none⟩) q.length cap1 ∧ Buf w g o1 cap1 q ∧ i = .int .u64 (j : Nat) ∧ m = .int .u64 ((7 * k : Nat)) ∧ HD.vcont q j (7 * k) = R ∧ j < 255 + 2 ^ (7 * k) ∧ k ≤ 8) (fun s _ _ => lenOf s)
        case atStart => exact ⟨o, 0, 0, 127, [], rfl, Buf.nil (Nat.zero_le _), rfl, rfl, Hp.out.symm, by decide, by decide⟩
        case round =>
          obtain ⟨o1, cap1, k, j, q, rfl, hbuf, rfl, rfl, hq, hj, hk⟩ := hrel
          have HQ := Lib.hid hq
          have HBq := Lib.hid hbuf
          have hf1 := hbuf.fit
          have hm1 := hbuf.most
          unfold maxLen at hm1
          clear hq hbuf
          cases q with
          | nil =>
            go_wp2_with fail
            go_quiet (fail)
            go_wp2_with fail
            refine bodyPost_ret (v := .tuple #[.int .u64 0, .slice (some ⟨g, o, none⟩) 1 1, En]) (by simp [results, Tryd.results74, go_sem]) rfl ?_
            rw [← HQ.out]
            exact ⟨⟨_, rfl⟩, (Below.refl _ _).trans ⟨rfl, rfl, rfl, Nat.le_refl _, fun _ _ => rfl⟩⟩
          | cons c q =>
            have hcc := HBq.out.head
            have hc256 : (c.toNat : Int) < 256 := by have := c.toNat_lt; omega
            obtain ⟨ha1, ha2⟩ := and_u8 c.toNat (by have := c.toNat_lt; omega)
            have hsum := sum_u64 c.toNat hj hk
            have hv : HD.vcont (c :: q) j (7 * k) = if c.toNat < 128 then .ok (j + c.toNat % 128 * 2 ^ (7 * k)) q else if 63 ≤ 7 * k + 7 then .over else HD.vcont q (j + c.toNat % 128 * 2 ^ (7 * k)) (7 * k + 7) := rfl
            have hJ : k ≤ 7 → j + c.toNat % 128 * 2 ^ (7 * k) < 255 + 2 ^ (7 * (k + 1)) := fun _ => by
              have h1 : c.toNat % 128 * 2 ^ (7 * k) ≤ 127 * 2 ^ (7 * k) := Nat.mul_le_mul_right _ (by omega)
              have e : 2 ^ (7 * (k + 1)) = 128 * 2 ^ (7 * k) := by rw [Nat.mul_add, Nat.pow_add, Nat.mul_comm]
              omega
            generalize j + c.toNat % 128 * 2 ^ (7 * k) = J at *
            rw [hv] at HQ
            clear hv
            have HJ := Lib.hid hJ
            clear hJ
            have hq1 : q.length + 1 ≤ cap1 := by simpa using hf1
            clear hf1
            by_cases hc2 : cap1 = 1
            · subst hc2
              obtain rfl : q = [] := List.eq_nil_of_length_eq_zero (by omega)
              by_cases hc128 : c.toNat < 128
              · rw [if_pos hc128] at ha2 HQ
                go_wp2_with fail
                refine bodyPost_ret (v := .tuple #[.int .u64 (J : Nat), .slice (some ⟨g, o1, none⟩) 0 0, .nilIface]) (by simp [results, Tryd.results74, go_sem]) rfl ?_
                rw [← HQ.out]
                exact ⟨⟨_, _, rfl, Buf.nil (Nat.zero_le _)⟩, Below.refl _ _⟩
              · rw [if_neg hc128] at ha2 HQ
                by_cases hk8 : 63 ≤ 7 * k + 7
                · rw [if_pos hk8] at HQ
                  have hk8I : (63 : Int) ≤ 7 * (k : Int) + 7 := by omega
                  go_wp2_with fail
                  refine (overflow_any _).mono ?_
                  rintro e w1 ⟨⟨a, rfl, ha⟩, hb1⟩
                  have Hb1 := Lib.hid hb1
                  clear hb1
                  go_wp2_with fail
                  refine bodyPost_ret (v := .tuple #[.int .u64 0, .slice (some ⟨g, o, none⟩) 1 1, codingErr a]) (by simp [results, Tryd.results74, go_sem]) rfl ?_
                  rw [← HQ.out]
                  exact ⟨⟨_, _, rfl, ha⟩, Hb1.out⟩
                · rw [if_neg hk8] at HQ
                  have hk8I : ¬ (63 : Int) ≤ 7 * (k : Int) + 7 := by omega
                  go_wp2_with fail
                  exact ⟨⟨_, _, k + 1, J, [], rfl, Buf.nil (Nat.zero_le _), rfl, by go_num, by rw [Nat.mul_add]; exact HQ.out, HJ.out (by omega), by omega⟩, by simp [lenOf]⟩
            · have HTl := Lib.hid HBq.out.tail
              by_cases hc128 : c.toNat < 128
              · rw [if_pos hc128] at ha2 HQ
                go_wp2_with fail
                refine bodyPost_ret (v := .tuple #[.int .u64 (J : Nat), .slice (some ⟨g, o1 + 1, none⟩) q.length (cap1 - 1), .nilIface]) (by simp [results, Tryd.results74, go_sem]) rfl ?_
                rw [← HQ.out]
                exact ⟨⟨_, _, rfl, HTl.out⟩, Below.refl _ _⟩
              · rw [if_neg hc128] at ha2 HQ
                by_cases hk8 : 63 ≤ 7 * k + 7
                · rw [if_pos hk8] at HQ
                  have hk8I : (63 : Int) ≤ 7 * (k : Int) + 7 := by omega
                  go_wp2_with fail
                  refine (overflow_any _).mono ?_
                  rintro e w1 ⟨⟨a, rfl, ha⟩, hb1⟩
                  have Hb1 := Lib.hid hb1
                  clear hb1
                  go_wp2_with fail
                  refine bodyPost_ret (v := .tuple #[.int .u64 0, .slice (some ⟨g, o, none⟩) 1 1, codingErr a]) (by simp [results, Tryd.results74, go_sem]) rfl ?_
                  rw [← HQ.out]
                  exact ⟨⟨_, _, rfl, ha⟩, Hb1.out⟩
                · rw [if_neg hk8] at HQ
                  have hk8I : ¬ (63 : Int) ≤ 7 * (k : Int) + 7 := by omega
                  go_wp2_with fail
                  exact ⟨⟨_, _, k + 1, J, q, rfl, HTl.out, rfl, by go_num, by rw [Nat.mul_add]; exact HQ.out, HJ.out (by omega), by omega⟩, by simp [lenOf]⟩
      · go_enter Tryd.func74, Tryd.ntmps74
        go_wp2_with fail
        go_loop [1, 4, 8] (fun s i m => ∃ (o1 cap1 k j : Nat) (q : List UInt8), s = .slice (some ⟨g, o1, none⟩) q.length cap1 ∧ Buf w g o1 cap1 q ∧ i = .int .u64 (j : Nat) ∧ m = .int .u64 ((7 * k : Nat)) ∧ HD.vcont q j (7 * k) = R ∧ j < 255 + 2 ^ (7 * k) ∧ k ≤ 8) (fun s _ _ => lenOf s)
        case atStart => exact ⟨o + 1, cap - 1, 0, 127, p, rfl, Htail.out, rfl, rfl, Hp.out.symm, by decide, by decide⟩
        case round =>
          obtain ⟨o1, cap1, k, j, q, rfl, hbuf, rfl, rfl, hq, hj, hk⟩ := hrel
          have HQ := Lib.hid hq
          have HBq := Lib.hid hbuf
          have hf1 := hbuf.fit
          have hm1 := hbuf.most
          unfold maxLen at hm1
          clear hq hbuf
          cases q with
          | nil =>
            go_wp2_with fail
            go_quiet (fail)
            go_wp2_with fail
            refine bodyPost_ret (v := .tuple #[.int .u64 0, .slice (some ⟨g, o, none⟩) (p.length + 1) cap, En]) (by simp [results, Tryd.results74, go_sem]) rfl ?_
            rw [← HQ.out]
            exact ⟨⟨_, rfl⟩, (Below.refl _ _).trans ⟨rfl, rfl, rfl, Nat.le_refl _, fun _ _ => rfl⟩⟩
          | cons c q =>
            have hcc := HBq.out.head
            have hc256 : (c.toNat : Int) < 256 := by have := c.toNat_lt; omega
            obtain ⟨ha1, ha2⟩ := and_u8 c.toNat (by have := c.toNat_lt; omega)
            have hsum := sum_u64 c.toNat hj hk
            have hv : HD.vcont (c :: q) j (7 * k) = if c.toNat < 128 then .ok (j + c.toNat % 128 * 2 ^ (7 * k)) q else if 63 ≤ 7 * k + 7 then .over else HD.vcont q (j + c.toNat % 128 * 2 ^ (7 * k)) (7 * k + 7) := rfl
            have hJ : k ≤ 7 → j + c.toNat % 128 * 2 ^ (7 * k) < 255 + 2 ^ (7 * (k + 1)) := fun _ => by
              have h1 : c.toNat % 128 * 2 ^ (7 * k) ≤ 127 * 2 ^ (7 * k) := Nat.mul_le_mul_right _ (by omega)
              have e : 2 ^ (7 * (k + 1)) = 128 * 2 ^ (7 * k) := by rw [Nat.mul_add, Nat.pow_add, Nat.mul_comm]
              omega
            generalize j + c.toNat % 128 * 2 ^ (7 * k) = J at *
            rw [hv] at HQ
            clear hv
            have HJ := Lib.hid hJ
            clear hJ
            have hq1 : q.length + 1 ≤ cap1 := by simpa using hf1
            clear hf1
            by_cases hc2 : cap1 = 1
            · subst hc2
              obtain rfl : q = [] := List.eq_nil_of_length_eq_zero (by omega)
              by_cases hc128 : c.toNat < 128
              · rw [if_pos hc128] at ha2 HQ
                go_wp2_with fail
                refine bodyPost_ret (v := .tuple #[.int .u64 (J : Nat), .slice (some ⟨g, o1, none⟩) 0 0, .nilIface]) (by simp [results, Tryd.results74, go_sem]) rfl ?_
                rw [← HQ.out]
                exact ⟨⟨_, _, rfl, Buf.nil (Nat.zero_le _)⟩, Below.refl _ _⟩
              · rw [if_neg hc128] at ha2 HQ
                by_cases hk8 : 63 ≤ 7 * k + 7
                · rw [if_pos hk8] at HQ
                  have hk8I : (63 : Int) ≤ 7 * (k : Int) + 7 := by omega
                  go_wp2_with fail
                  refine (overflow_any _).mono ?_
                  rintro e w1 ⟨⟨a, rfl, ha⟩, hb1⟩
                  have Hb1 := Lib.hid hb1
                  clear hb1
                  go_wp2_with fail
                  refine bodyPost_ret (v := .tuple #[.int .u64 0, .slice (some ⟨g, o, none⟩) (p.length + 1) cap, codingErr a]) (by simp [results, Tryd.results74, go_sem]) rfl ?_
                  rw [← HQ.out]
                  exact ⟨⟨_, _, rfl, ha⟩, Hb1.out⟩
                · rw [if_neg hk8] at HQ
                  have hk8I : ¬ (63 : Int) ≤ 7 * (k : Int) + 7 := by omega
                  go_wp2_with fail
                  exact ⟨⟨_, _, k + 1, J, [], rfl, Buf.nil (Nat.zero_le _), rfl, by go_num, by rw [Nat.mul_add]; exact HQ.out, HJ.out (by omega), by omega⟩, by simp [lenOf]⟩
            · have HTl := Lib.hid HBq.out.tail
              by_cases hc128 : c.toNat < 128
              · rw [if_pos hc128] at ha2 HQ
                go_wp2_with fail
                refine bodyPost_ret (v := .tuple #[.int .u64 (J : Nat), .slice (some ⟨g, o1 + 1, none⟩) q.length (cap1 - 1), .nilIface]) (by simp [results, Tryd.results74, go_sem]) rfl ?_
                rw [← HQ.out]
                exact ⟨⟨_, _, rfl, HTl.out⟩, Below.refl _ _⟩
              · rw [if_neg hc128] at ha2 HQ
                by_cases hk8 : 63 ≤ 7 * k + 7
                · rw [if_pos hk8] at HQ
                  have hk8I : (63 : Int) ≤ 7 * (k : Int) + 7 := by omega
                  go_wp2_with fail
                  refine (overflow_any _).mono ?_
                  rintro e w1 ⟨⟨a, rfl, ha⟩, hb1⟩
                  have Hb1 := Lib.hid hb1
                  clear hb1
                  go_wp2_with fail
                  refine bodyPost_ret (v := .tuple #[.int .u64 0, .slice (some ⟨g, o, none⟩) (p.length + 1) cap, codingErr a]) (by simp [results, Tryd.results74, go_sem]) rfl ?_
                  rw [← HQ.out]
                  exact ⟨⟨_, _, rfl, ha⟩, Hb1.out⟩
                · rw [if_neg hk8] at HQ
                  have hk8I : ¬ (63 : Int) ≤ 7 * (k : Int) + 7 := by omega
                  go_wp2_with fail
                  exact ⟨⟨_, _, k + 1, J, q, rfl, HTl.out, rfl, by go_num, by rw [Nat.mul_add]; exact HQ.out, HJ.out (by omega), by omega⟩, by simp [lenOf]⟩
theorem varInt_any (n : Nat) (hn : n = 4 ∨ n = 5 ∨ n = 6 ∨ n = 7) (En : Value) (g o cap : Nat) (v : List UInt8) (w : World) (hb : Buf w g o cap v) (he : w.cell? ⟨3, 0, none⟩ = some En) :
    Calls Tryd.prog 74 #[.int .u8 n, .slice (some ⟨g, o, none⟩) v.length cap] w fun e w' => VIEnds w.heap.size En g (HD.rvi n v) e w' ∧ Below w.heap.size w w' := by
  rcases hn with rfl | rfl | rfl | rfl
  · exact varInt4 En g o cap v w hb he
  · exact varInt5 En g o cap v w hb he
  · exact varInt6 En g o cap v w hb he
  · exact varInt7 En g o cap v w hb he
end Go.Proofs.YtjdmaflkafmmpaaDoor
/-
  A slice of bytes is turned into a string.
-/
namespace Go.Proofs.YtjdmaflkafmmpaaDoor
open Go.ChangeShapes Go.WideShapes Go.ChangeAt Go.RowKit

theorem foldl_push_cells (v : List UInt8) : (v.map fun b => (b.toNat : Int)).foldl (fun r n => r.push (UInt8.ofNat n.toNat)) ByteArray.empty = ⟨v.toArray⟩ := by
  rw [foldl_push_bytes]
  have e : ((fun n : Int => UInt8.ofNat n.toNat) ∘ fun b : UInt8 => (b.toNat : Int)) = id := by funext b; simp
  simp [ByteArray.empty, ByteArray.emptyWithCapacity, e]
  rfl

/-- A slice of bytes is turned into a string. -/
theorem conv_bytes {w : World} {sa : Option Addr} {cap : Nat} {v : List UInt8} (h : SrcAny sa cap v w) : (convert 30 9 (.slice sa v.length cap)).run Tryd.prog w = .ok (.string ⟨v.toArray⟩) w := by
  rw [run_convert_bytes_string w _ _ _ _ _ _ Tryd.underlying30 Tryd.underlying5 Tryd.underlying9]
  rcases h with ⟨rfl, rfl, rfl⟩ | ⟨a, rfl, hc⟩
  · simp [Conv.bytesToString]; rfl
  · have hl : (loadCells a v.length).run Tryd.prog w = .ok ((v.map fun b => (b.toNat : Int)).map (Value.int .u8)).toArray w := by
      have := run_loadCells_list (P := Tryd.prog) w a (Lib.byteCells v) hc
      rw [byteCells_len] at this
      simpa [Lib.byteCells, Function.comp_def] using this
    rw [run_bytesToString w a v.length cap _ hl, foldl_push_cells]
end Go.Proofs.YtjdmaflkafmmpaaDoor
/-
  Contracts of readString and decodeString, where no longest text was told.
-/
namespace Go.Proofs.YtjdmaflkafmmpaaDoor
open Go.ChangeShapes Go.WideShapes Go.ChangeAt Go.RowKit

theorem Buf.below {w w' : World} {g o cap : Nat} {v : List UInt8} (h : Buf w g o cap v) (hb : Below w.heap.size w w') : Buf w' g o cap v :=
  h.kept fun hv => by
    have h0 := h.cell 0 (List.length_pos_iff.2 hv)
    exact hb.block g (World.block_lt_of_cell? w _ h0)
theorem Buf.take {w : World} {g o cap : Nat} {v : List UInt8} (h : Buf w g o cap v) (n : Nat) (hn : n ≤ v.length) : Buf w g o cap (v.take n) :=
  ⟨by have := h.fit; simp; omega, h.most, fun i hi => by
    have hi' : i < v.length := by simp at hi; omega
    rw [h.cell i hi']; simp⟩
theorem Buf.drop {w : World} {g o cap : Nat} {v : List UInt8} (h : Buf w g o cap v) (n : Nat) (hn : n ≤ v.length) : Buf w g (o + n) (cap - n) (v.drop n) :=
  ⟨by have := h.fit; simp; omega, by have := h.most; omega, fun i hi => by
    have hi' : n + i < v.length := by simp at hi; omega
    rw [show o + n + i = o + (n + i) by omega, h.cell (n + i) hi']; simp⟩
theorem Buf.src {w : World} {g o cap : Nat} {v : List UInt8} (h : Buf w g o cap v) : SrcAny (some ⟨g, o, none⟩) cap v w := by
  refine Or.inr ⟨_, rfl, fun q u hu => ?_⟩
  have hq : q < v.length := by
    have := (List.getElem?_eq_some_iff.1 hu).1
    rwa [byteCells_len] at this
  rw [Lib.addr_add, h.cell q hq]
  simpa [Lib.byteCells, hq] using hu

/-- How readString ends. -/
def RSEnds (n : Nat) (En : Value) (g : Nat) : HD.RS → Ending → World → Prop
  | .ok huff b rest, e, w' => ∃ o1 c1 o2 c2, e = .returned (.tuple #[.agg #[.bool huff, .slice (some ⟨g, o1, none⟩) b.length c1], .slice (some ⟨g, o2, none⟩) rest.length c2, .nilIface]) ∧ Buf w' g o1 c1 b ∧ Buf w' g o2 c2 rest
  | .more, e, _ => ∃ s, e = .returned (.tuple #[.agg #[.bool false, .slice none 0 0], s, En])
  | .over, e, w' => ∃ s a, e = .returned (.tuple #[.agg #[.bool false, .slice none 0 0], s, codingErr a]) ∧ Fresh n w' a

set_option maxHeartbeats 4000000 in
set_option maxRecDepth 100000 in
theorem readString_any (d : Nat) (aN : Addr) (g o cap : Nat) (v : List UInt8) (w : World) (hb : Buf w g o cap v) (hd : w.cell? ⟨d, 10, none⟩ = some (.int .i64 0)) (he : w.cell? ⟨3, 0, none⟩ = some (.iface 125 (.pointer (some aN)))) :
    Calls Tryd.prog 78 #[.pointer (some ⟨d, 0, none⟩), .slice (some ⟨g, o, none⟩) v.length cap] w fun e w' => RSEnds w.heap.size (.iface 125 (.pointer (some aN))) g (HD.rstr v) e w' ∧ Below w.heap.size w w' := by
  have hfit := hb.fit
  have hmost := hb.most
  unfold maxLen at hmost
  have HB := Lib.hid hb
  have hG := World.block_lt_of_cell? w _ he
  have hD := World.block_lt_of_cell? w _ hd
  clear hb
  cases v with
  | nil =>
    go_enter Tryd.func78, Tryd.ntmps78
    go_wp2_with fail
    go_region
    all_goals
      go_wp2_with fail
      refine bodyPost_ret (v := .tuple #[.agg #[.bool false, .slice none 0 0], .slice (some ⟨g, o, none⟩) 0 cap, .iface 125 (.pointer (some aN))]) (by simp [results, Tryd.results78, go_sem]) rfl ?_
      exact ⟨⟨_, rfl⟩, ((Below.refl _ _).alloc (Nat.le_refl _) _).trans ⟨rfl, rfl, rfl, Nat.le_refl _, fun _ _ => rfl⟩⟩
  | cons b p =>
    have hc := HB.out.head
    have hgl := World.block_lt_of_cell? w _ hc
    have hbI : (b.toNat : Int) < 256 := by have := b.toNat_lt; omega
    obtain ⟨ha1, ha2⟩ := and_u8 b.toNat (by have := b.toNat_lt; omega)
    have Hfit := Lib.hid hfit
    clear hfit
    have hz1 : ∀ k : Nat, (1 : Nat) = 1 := fun _ => rfl
    clear hz1
    have hb1 : Below w.heap.size w (w.alloc (.cells #[.bool false, .slice none 0 0] 139)) := (Below.refl _ _).alloc (Nat.le_refl _) _
    have Hb1 := Lib.hid hb1
    clear hb1
    by_cases hb128 : b.toNat < 128
    · rw [if_pos hb128] at ha2
      go_enter Tryd.func78, Tryd.ntmps78
      go_wp2_with fail
      refine (varInt_any 7 (by decide) _ g o cap (b :: p) _ (HB.out.below Hb1.out) ((Hb1.out.cell (p := ⟨3, 0, none⟩) hG).trans he)).mono ?_
      rintro e w1 ⟨hv, hb2⟩
      rw [World.size_alloc] at hv hb2
      have hh1 := (hb2.block w.heap.size (Nat.lt_succ_self _)).trans (heap_alloc_new w _)
      have k0 := Lib.cell_of_heap hh1 0
      have k1 := Lib.cell_of_heap hh1 1
      rw [show ((#[Value.bool false, .slice none 0 0] : Array Value))[0]? = some (.bool false) from rfl] at k0
      rw [show ((#[Value.bool false, .slice none 0 0] : Array Value))[1]? = some (.slice none 0 0) from rfl] at k1
      have f0 := Lib.frozen_of_heap hh1
      have hb3 := Hb1.out.trans (hb2.mono (Nat.le_succ _))
      have kd := (hb3.cell (p := ⟨d, 10, none⟩) hD).trans hd
      have ke := (hb3.cell (p := ⟨3, 0, none⟩) hG).trans he
      have hz : w.heap.size < w1.heap.size := Nat.lt_of_lt_of_le (Nat.lt_succ_self _) (by have := hb2.size; rwa [World.size_alloc] at this)
      have Hb3 := Lib.hid hb3
      clear hb2 hb3 hh1
      cases hr : HD.rvi 7 (b :: p) with
      | more =>
        rw [hr] at hv
        obtain ⟨s, rfl⟩ := hv
        have Hr := Lib.hid hr
        clear hr
        go_wp2_with fail
        refine bodyPost_ret (v := .tuple #[.agg #[.bool false, .slice none 0 0], s, .iface 125 (.pointer (some aN))]) (by simp (maxDischargeDepth := 9) [results, Tryd.results78, go_sem, k0, k1]) rfl ?_
        have hR : HD.rstr (b :: p) = .more := by rw [HD.rstr, Hr.out]
        rw [hR]
        exact ⟨⟨_, rfl⟩, (Hb3.out.setCell (Nat.le_refl _) _).setCell (Nat.le_refl _) _⟩
      | over =>
        rw [hr] at hv
        obtain ⟨s, a, rfl, ha⟩ := hv
        have Hr := Lib.hid hr
        clear hr
        unfold codingErr
        go_wp2_with fail
        refine bodyPost_ret (v := .tuple #[.agg #[.bool false, .slice none 0 0], s, codingErr a]) (by simp [results, Tryd.results78, go_sem, k0, k1, codingErr]) rfl ?_
        have hR : HD.rstr (b :: p) = .over := by rw [HD.rstr, Hr.out]
        rw [hR]
        exact ⟨⟨_, _, rfl, ((ha.setBelow (Nat.lt_succ_self _) _).setBelow (Nat.lt_succ_self _) _).mono (Nat.le_succ _)⟩, (Hb3.out.setCell (Nat.le_refl _) _).setCell (Nat.le_refl _) _⟩
      | ok n rest =>
        rw [hr] at hv
        obtain ⟨o1, c1, rfl, hbuf⟩ := hv
        have hn64 := HD.rvi_lt (by decide) hr
        have hf1 := hbuf.fit
        have hm1 := hbuf.most
        unfold maxLen at hm1
        have HBr := Lib.hid hbuf
        have Hr := Lib.hid hr
        clear hr hbuf
        have hR : HD.rstr (b :: p) = if rest.length < n then .more else .ok (decide (128 ≤ b.toNat)) (rest.take n) (rest.drop n) := by rw [HD.rstr, Hr.out]
        have HR := Lib.hid hR
        clear hR
        by_cases hn : rest.length < n
        · rw [if_pos hn] at HR
          have hnI : (rest.length : Int) < (n : Int) := by omega
          go_wp2_with fail
          go_region
          all_goals
            go_wp2_with fail
            refine bodyPost_ret (v := .tuple #[.agg #[.bool false, .slice none 0 0], .slice (some ⟨g, o1, none⟩) rest.length c1, .iface 125 (.pointer (some aN))]) (by simp (maxDischargeDepth := 9) [results, Tryd.results78, go_sem, k0, k1]) rfl ?_
            rw [HR.out]
            refine ⟨⟨_, rfl⟩, ?_⟩
            (repeat (first | exact Hb3.out | refine below_drew ?_ | refine below_drewN ?_ | refine Below.setCell ?_ (by exact Nat.le_refl _) _))
        · rw [if_neg hn] at HR
          have hnI : ¬ (rest.length : Int) < (n : Int) := by omega
          by_cases hcn : c1 = n
          · subst hcn
            have e1 : rest.length = c1 := by omega
            go_wp2_with fail
            go_region
            all_goals
              go_wp2_with fail
              refine bodyPost_ret (v := .tuple #[.agg #[.bool false, .slice (some ⟨g, o1, none⟩) c1 c1], .slice (some ⟨g, o1, none⟩) 0 0, .nilIface]) (by simp (maxDischargeDepth := 9) [results, Tryd.results78, go_sem, k0, k1]) rfl ?_
              rw [HR.out]
              refine ⟨⟨o1, c1, o1, 0, by rw [List.length_take, List.length_drop, e1, Nat.min_self, Nat.sub_self, show decide (128 ≤ b.toNat) = false by simp; omega], ?_, ?_⟩, ?_⟩
              · refine (HBr.out.take c1 (by omega)).kept fun _ => Below.block (B := w.heap.size) ?_ g hgl
                (repeat (first | exact Below.refl _ _ | refine below_drew ?_ | refine below_drewN ?_ | refine Below.setCell ?_ (by exact Nat.le_refl _) _))
              · rw [← e1, List.drop_length]; exact Buf.nil (Nat.zero_le _)
              · (repeat (first | exact Hb3.out | refine below_drew ?_ | refine below_drewN ?_ | refine Below.setCell ?_ (by exact Nat.le_refl _) _))
          · go_wp2_with fail
            go_region
            all_goals
              go_wp2_with fail
              refine bodyPost_ret (v := .tuple #[.agg #[.bool false, .slice (some ⟨g, o1, none⟩) n c1], .slice (some ⟨g, o1 + n, none⟩) (rest.length - n) (c1 - n), .nilIface]) (by simp (maxDischargeDepth := 9) [results, Tryd.results78, go_sem, k0, k1]) rfl ?_
              rw [HR.out]
              refine ⟨⟨o1, c1, o1 + n, c1 - n, by rw [List.length_take, List.length_drop, Nat.min_eq_left (by omega), show decide (128 ≤ b.toNat) = false by simp; omega], ?_, ?_⟩, ?_⟩
              · refine (HBr.out.take n (by omega)).kept fun _ => Below.block (B := w.heap.size) ?_ g hgl
                (repeat (first | exact Below.refl _ _ | refine below_drew ?_ | refine below_drewN ?_ | refine Below.setCell ?_ (by exact Nat.le_refl _) _))
              · refine (HBr.out.drop n (by omega)).kept fun _ => Below.block (B := w.heap.size) ?_ g hgl
                (repeat (first | exact Below.refl _ _ | refine below_drew ?_ | refine below_drewN ?_ | refine Below.setCell ?_ (by exact Nat.le_refl _) _))
              · (repeat (first | exact Hb3.out | refine below_drew ?_ | refine below_drewN ?_ | refine Below.setCell ?_ (by exact Nat.le_refl _) _))
    · rw [if_neg hb128] at ha2
      go_enter Tryd.func78, Tryd.ntmps78
      go_wp2_with fail
      refine (varInt_any 7 (by decide) _ g o cap (b :: p) _ (HB.out.below Hb1.out) ((Hb1.out.cell (p := ⟨3, 0, none⟩) hG).trans he)).mono ?_
      rintro e w1 ⟨hv, hb2⟩
      rw [World.size_alloc] at hv hb2
      have hh1 := (hb2.block w.heap.size (Nat.lt_succ_self _)).trans (heap_alloc_new w _)
      have k0 := Lib.cell_of_heap hh1 0
      have k1 := Lib.cell_of_heap hh1 1
      rw [show ((#[Value.bool false, .slice none 0 0] : Array Value))[0]? = some (.bool false) from rfl] at k0
      rw [show ((#[Value.bool false, .slice none 0 0] : Array Value))[1]? = some (.slice none 0 0) from rfl] at k1
      have f0 := Lib.frozen_of_heap hh1
      have hb3 := Hb1.out.trans (hb2.mono (Nat.le_succ _))
      have kd := (hb3.cell (p := ⟨d, 10, none⟩) hD).trans hd
      have ke := (hb3.cell (p := ⟨3, 0, none⟩) hG).trans he
      have hz : w.heap.size < w1.heap.size := Nat.lt_of_lt_of_le (Nat.lt_succ_self _) (by have := hb2.size; rwa [World.size_alloc] at this)
      have Hb3 := Lib.hid hb3
      clear hb2 hb3 hh1
      cases hr : HD.rvi 7 (b :: p) with
      | more =>
        rw [hr] at hv
        obtain ⟨s, rfl⟩ := hv
        have Hr := Lib.hid hr
        clear hr
        go_wp2_with fail
        refine bodyPost_ret (v := .tuple #[.agg #[.bool false, .slice none 0 0], s, .iface 125 (.pointer (some aN))]) (by simp (maxDischargeDepth := 9) [results, Tryd.results78, go_sem, k0, k1]) rfl ?_
        have hR : HD.rstr (b :: p) = .more := by rw [HD.rstr, Hr.out]
        rw [hR]
        exact ⟨⟨_, rfl⟩, (Hb3.out.setCell (Nat.le_refl _) _).setCell (Nat.le_refl _) _⟩
      | over =>
        rw [hr] at hv
        obtain ⟨s, a, rfl, ha⟩ := hv
        have Hr := Lib.hid hr
        clear hr
        unfold codingErr
        go_wp2_with fail
        refine bodyPost_ret (v := .tuple #[.agg #[.bool false, .slice none 0 0], s, codingErr a]) (by simp [results, Tryd.results78, go_sem, k0, k1, codingErr]) rfl ?_
        have hR : HD.rstr (b :: p) = .over := by rw [HD.rstr, Hr.out]
        rw [hR]
        exact ⟨⟨_, _, rfl, ((ha.setBelow (Nat.lt_succ_self _) _).setBelow (Nat.lt_succ_self _) _).mono (Nat.le_succ _)⟩, (Hb3.out.setCell (Nat.le_refl _) _).setCell (Nat.le_refl _) _⟩
      | ok n rest =>
        rw [hr] at hv
        obtain ⟨o1, c1, rfl, hbuf⟩ := hv
        have hn64 := HD.rvi_lt (by decide) hr
        have hf1 := hbuf.fit
        have hm1 := hbuf.most
        unfold maxLen at hm1
        have HBr := Lib.hid hbuf
        have Hr := Lib.hid hr
        clear hr hbuf
        have hR : HD.rstr (b :: p) = if rest.length < n then .more else .ok (decide (128 ≤ b.toNat)) (rest.take n) (rest.drop n) := by rw [HD.rstr, Hr.out]
        have HR := Lib.hid hR
        clear hR
        by_cases hn : rest.length < n
        · rw [if_pos hn] at HR
          have hnI : (rest.length : Int) < (n : Int) := by omega
          go_wp2_with fail
          go_region
          all_goals
            go_wp2_with fail
            refine bodyPost_ret (v := .tuple #[.agg #[.bool false, .slice none 0 0], .slice (some ⟨g, o1, none⟩) rest.length c1, .iface 125 (.pointer (some aN))]) (by simp (maxDischargeDepth := 9) [results, Tryd.results78, go_sem, k0, k1]) rfl ?_
            rw [HR.out]
            refine ⟨⟨_, rfl⟩, ?_⟩
            (repeat (first | exact Hb3.out | refine below_drew ?_ | refine below_drewN ?_ | refine Below.setCell ?_ (by exact Nat.le_refl _) _))
        · rw [if_neg hn] at HR
          have hnI : ¬ (rest.length : Int) < (n : Int) := by omega
          by_cases hcn : c1 = n
          · subst hcn
            have e1 : rest.length = c1 := by omega
            go_wp2_with fail
            go_region
            all_goals
              go_wp2_with fail
              refine bodyPost_ret (v := .tuple #[.agg #[.bool true, .slice (some ⟨g, o1, none⟩) c1 c1], .slice (some ⟨g, o1, none⟩) 0 0, .nilIface]) (by simp (maxDischargeDepth := 9) [results, Tryd.results78, go_sem, k0, k1]) rfl ?_
              rw [HR.out]
              refine ⟨⟨o1, c1, o1, 0, by rw [List.length_take, List.length_drop, e1, Nat.min_self, Nat.sub_self, show decide (128 ≤ b.toNat) = true by simp; omega], ?_, ?_⟩, ?_⟩
              · refine (HBr.out.take c1 (by omega)).kept fun _ => Below.block (B := w.heap.size) ?_ g hgl
                (repeat (first | exact Below.refl _ _ | refine below_drew ?_ | refine below_drewN ?_ | refine Below.setCell ?_ (by exact Nat.le_refl _) _))
              · rw [← e1, List.drop_length]; exact Buf.nil (Nat.zero_le _)
              · (repeat (first | exact Hb3.out | refine below_drew ?_ | refine below_drewN ?_ | refine Below.setCell ?_ (by exact Nat.le_refl _) _))
          · go_wp2_with fail
            go_region
            all_goals
              go_wp2_with fail
              refine bodyPost_ret (v := .tuple #[.agg #[.bool true, .slice (some ⟨g, o1, none⟩) n c1], .slice (some ⟨g, o1 + n, none⟩) (rest.length - n) (c1 - n), .nilIface]) (by simp (maxDischargeDepth := 9) [results, Tryd.results78, go_sem, k0, k1]) rfl ?_
              rw [HR.out]
              refine ⟨⟨o1, c1, o1 + n, c1 - n, by rw [List.length_take, List.length_drop, Nat.min_eq_left (by omega), show decide (128 ≤ b.toNat) = true by simp; omega], ?_, ?_⟩, ?_⟩
              · refine (HBr.out.take n (by omega)).kept fun _ => Below.block (B := w.heap.size) ?_ g hgl
                (repeat (first | exact Below.refl _ _ | refine below_drew ?_ | refine below_drewN ?_ | refine Below.setCell ?_ (by exact Nat.le_refl _) _))
              · refine (HBr.out.drop n (by omega)).kept fun _ => Below.block (B := w.heap.size) ?_ g hgl
                (repeat (first | exact Below.refl _ _ | refine below_drew ?_ | refine below_drewN ?_ | refine Below.setCell ?_ (by exact Nat.le_refl _) _))
              · (repeat (first | exact Hb3.out | refine below_drew ?_ | refine below_drewN ?_ | refine Below.setCell ?_ (by exact Nat.le_refl _) _))

end Go.Proofs.YtjdmaflkafmmpaaDoor
/-
  The contract of decodeString, where no longest text was told.
-/
namespace Go.Proofs.YtjdmaflkafmmpaaDoor
open Go.ChangeShapes Go.WideShapes Go.ChangeAt Go.RowKit

/-- How decodeString ends. -/
def DSEnds (Ei : Value) : Option HD.Bs → Ending → Prop
  | some t, e => e = .returned (.tuple #[.string ⟨t.toArray⟩, .nilIface])
  | none, e => e = .returned (.tuple #[.string ByteArray.empty, Ei])

set_option maxHeartbeats 1000000 in
set_option maxRecDepth 100000 in
theorem decodeString_any (d : Nat) (aI : Addr) (huff : Bool) (g o cap : Nat) (v : List UInt8) (w : World) (hb : Buf w g o cap v) (hv : v.length ≤ 134217728) (hd : w.cell? ⟨d, 10, none⟩ = some (.int .i64 0)) (hl : LenTab w) (hc : CodeTab w) (he : w.cell? ⟨0, 0, none⟩ = some (.iface 125 (.pointer (some aI)))) :
    Calls Tryd.prog 79 #[.pointer (some ⟨d, 0, none⟩), .agg #[.bool huff, .slice (some ⟨g, o, none⟩) v.length cap]] w fun e w' => DSEnds (.iface 125 (.pointer (some aI))) (HD.dstr huff v) e ∧ Below w.heap.size w w' := by
  have hG := World.block_lt_of_cell? w _ he
  have hD := World.block_lt_of_cell? w _ hd
  cases huff with
  | false =>
    have kc := conv_bytes (w := w.alloc (.cells #[.bool false, .slice (some ⟨g, o, none⟩) v.length cap] 139)) (hb.below ((Below.refl _ _).alloc (Nat.le_refl _) _)).src
    go_enter Tryd.func79, Tryd.ntmps79
    go_wp2_with fail
    go_ret2
    exact ⟨rfl, (Below.refl _ _).alloc (Nat.le_refl _) _⟩
  | true =>
    have hb0 : Below w.heap.size w (w.alloc (.cells #[.bool true, .slice (some ⟨g, o, none⟩) v.length cap] 139)) := (Below.refl _ _).alloc (Nat.le_refl _) _
    have hbuf : IsBuf (w.heap.size + 1) (w.heap.size + 1) [] ((w.alloc (.cells #[.bool true, .slice (some ⟨g, o, none⟩) v.length cap] 139)).alloc (.cells #[.slice none 0 0, .int .i64 0, .int .i8 0] 86)) := by
      have := Lib.fresh_isBuffer 86 5 (w.alloc (.cells #[.bool true, .slice (some ⟨g, o, none⟩) v.length cap] 139))
      rw [World.size_alloc] at this
      exact this
    have hb1 := hb0.alloc (by simp) (.cells #[.slice none 0 0, .int .i64 0, .int .i8 0] 86)
    have Hl := Lib.hid hl
    have Hc := Lib.hid hc
    have HBv := Lib.hid hb
    have Hb1 := Lib.hid hb1
    have Hbuf := Lib.hid hbuf
    have He := Lib.hid he
    clear hl hc hb hb0 hb1 hbuf he
    have hsrc : Src (w.heap.size + 1) (some ⟨g, o, none⟩) v ((w.alloc (.cells #[.bool true, .slice (some ⟨g, o, none⟩) v.length cap] 139)).alloc (.cells #[.slice none 0 0, .int .i64 0, .int .i8 0] 86)) := fun hne => by
      have h0 := HBv.out.cell 0 (List.length_pos_iff.2 hne)
      have hlt := World.block_lt_of_cell? w _ h0
      exact ⟨g, o, rfl, Nat.lt_succ_of_lt hlt, fun i hi => (Hb1.out.cell (p := ⟨g, o + i, none⟩) hlt).trans (HBv.out.cell i hi)⟩
    have hdec := decode_any (w.heap.size + 1) (w.heap.size + 1) cap (some ⟨g, o, none⟩) v (.iface 125 (.pointer (some aI))) ((w.alloc (.cells #[.bool true, .slice (some ⟨g, o, none⟩) v.length cap] 139)).alloc (.cells #[.slice none 0 0, .int .i64 0, .int .i8 0] 86)).drew hv Hbuf.out (by show _ ≤ (_ : World).heap.size; simp) hsrc (Hl.out.below (below_drew Hb1.out) (LenTab.lt Hl.out)) (Hc.out.below (below_drew Hb1.out) (CodeTab.lt Hc.out)) (((below_drew Hb1.out).cell (p := ⟨0, 0, none⟩) hG).trans He.out) (Nat.lt_succ_of_lt hG)
    have Hdec := Lib.hid hdec
    clear hsrc hdec
    cases hd : HP.hdec v with
    | none =>
      go_enter Tryd.func79, Tryd.ntmps79
      go_wp2_with fail
      refine stillTail 7 (by kernel_rfl) (by kernel_rfl) ?_
      simp only [List.take_succ_cons, List.take_zero, List.drop_succ_cons, List.drop_zero]
      repeat (refine wpStill_step (fun K hK => ?_); go_simp; (refine hK _ ?_; clear hK K))
      refine wpStill_nil ?_
      go_wp2_with fail
      refine Hdec.out.mono ?_
      rintro e w2 ⟨hend, hb2⟩
      rw [hd] at hend
      obtain ⟨rfl, t, hbf⟩ : e = .returned (.iface 125 (.pointer (some aI))) ∧ ∃ t, IsBuf (w.heap.size + 1) (w.heap.size + 1) t w2 := hend
      have Hb2 := Lib.hid ((below_drew Hb1.out).trans (hb2.mono (Nat.le_succ _)))
      have Hbf := Lib.hid hbf
      have Hd := Lib.hid hd
      clear hb2 hbf hd
      go_wp2_with fail
      refine (Buffer_Reset (w.heap.size + 1) (w.heap.size + 1) (Lib.byteCells t) _ (by exact Hbf.out)).mono ?_
      rintro e w4 ⟨rfl, -, hb4⟩
      have Hb4 := Lib.hid (Hb2.out.trans (hb4.mono (Nat.le_succ _)))
      clear hb4
      go_wp2_with fail
      go_ret2
      exact ⟨by rw [show HD.dstr true v = HP.hdec v from rfl, Hd.out]; rfl, Hb4.out⟩
    | some t =>
      go_enter Tryd.func79, Tryd.ntmps79
      go_wp2_with fail
      refine stillTail 7 (by kernel_rfl) (by kernel_rfl) ?_
      simp only [List.take_succ_cons, List.take_zero, List.drop_succ_cons, List.drop_zero]
      repeat (refine wpStill_step (fun K hK => ?_); go_simp; (refine hK _ ?_; clear hK K))
      refine wpStill_nil ?_
      go_wp2_with fail
      refine Hdec.out.mono ?_
      rintro e w2 ⟨hend, hb2⟩
      rw [hd] at hend
      obtain ⟨rfl, hbf⟩ : e = .returned .nilIface ∧ IsBuf (w.heap.size + 1) (w.heap.size + 1) t w2 := hend
      have Hb2 := Lib.hid ((below_drew Hb1.out).trans (hb2.mono (Nat.le_succ _)))
      have Hbf := Lib.hid hbf
      have Hd := Lib.hid hd
      clear hb2 hbf hd
      go_wp2_with fail
      refine (Buffer_String (w.heap.size + 1) (w.heap.size + 1) t _ Hbf.out).mono ?_
      rintro e w3 ⟨rfl, n, rfl⟩
      go_wp2_with fail
      refine (Buffer_Reset (w.heap.size + 1) (w.heap.size + 1) (Lib.byteCells t) _ (by exact Hbf.out)).mono ?_
      rintro e w4 ⟨rfl, -, hb4⟩
      have Hb4 := Lib.hid ((below_drewN Hb2.out).trans (hb4.mono (Nat.le_succ _)))
      clear hb4
      go_wp2_with fail
      go_ret2
      exact ⟨by rw [show HD.dstr true v = HP.hdec v from rfl, Hd.out]; rfl, Hb4.out⟩
end Go.Proofs.YtjdmaflkafmmpaaDoor
/-
  A decoder in memory.
-/
namespace Go.Proofs.YtjdmaflkafmmpaaDoor
open Go.ChangeShapes Go.WideShapes Go.ChangeAt Go.RowKit

/-- A decoder, told no longest text, in block d. -/
structure DecMem (B : Nat) (w : World) (d : Nat) (f : Nat → Value) (s : HD.St) (cnt : Nat) (ev : Value) (m1 m2 : Nat) (l1 : List (HD.Bs × Nat)) (l2 : List ((HD.Bs × HD.Bs) × Nat)) : Prop where
  tab : TabMem B w d 16 f s.ents cnt ev m1 m2 l1 l2
  sized : Sized f s.ents s.max
  allowed : f 7 = .int .u32 (s.allowed : Nat)
  on : f 9 = .bool s.on
  most : f 10 = .int .i64 0
  first : f 15 = .bool s.first
/-- Numbers that stay small. -/
structure Small (s : HD.St) (cnt : Nat) : Prop where
  cnt : cnt + s.ents.length + 1 < 2 ^ 62
  len : s.ents.length ≤ 2 ^ 40
  max : s.max < 2 ^ 32
  allowed : s.allowed < 2 ^ 32
  size : HD.tsize s.ents < 2 ^ 32
/-- Block g holds bytes. -/
def IsU8 (w : World) (g : Nat) : Prop := ∃ cs fz, w.heap[g]? = some (.cells cs 5 fz)
theorem not_own_u8 {B : Nat} {w : World} {b n : Nat} {f : Nat → Value} {ents : List (HD.Bs × HD.Bs)} {cnt : Nat} {ev : Value} {m1 m2 : Nat} {l1 : List (HD.Bs × Nat)} {l2 : List ((HD.Bs × HD.Bs) × Nat)} {g : Nat}
    (h : TabMem B w b n f ents cnt ev m1 m2 l1 l2) (hg : IsU8 w g) : ¬ tabOwn b ev m1 m2 g := by
  obtain ⟨cs, fz, hg⟩ := hg
  rintro (rfl | ho | rfl | rfl)
  · obtain ⟨cs', t, hb, -, -, ht⟩ := h.row
    rw [hg] at hb; injection hb with hb; injection hb with _ hb _; exact ht hb.symm
  · obtain ⟨c, fz', hk⟩ := Lib.ownsRow_kind h.own g ho
    rw [hg] at hk; injection hk with hk; injection hk with _ hk _; exact absurd hk (by decide)
  · obtain ⟨_, es, c, hb, -⟩ := h.map1
    rw [hg] at hb; injection hb with hb; cases hb
  · obtain ⟨_, es, c, hb, -⟩ := h.map2
    rw [hg] at hb; injection hb with hb; cases hb
def ErrV (n : Nat) (w' : World) (aI : Addr) : HD.Er → Value → Prop
  | .huff, v => v = .iface 125 (.pointer (some aI))
  | .coding, v => ∃ a : Addr, v = codingErr a ∧ Fresh n w' a
  | .index i, v => v = .iface 101 (.agg #[.iface 103 (.int .i64 (IntKind.i64.wrap (i : Nat)))])

/-- How a representation without a field ends. -/
def UEnds (B : Nat) (w : World) (d g : Nat) (f : Nat → Value) (s : HD.St) (cnt : Nat) (ev : Value) (m1 m2 : Nat) (aI aN : Addr) : HD.P1 → Ending → World → Prop
  | .more, e, w' => e = .returned (.iface 125 (.pointer (some aN))) ∧ Below w.heap.size w w'
  | .bad er, e, w' => (∃ x, e = .returned x ∧ ErrV w.heap.size w' aI er x) ∧ Below w.heap.size w w'
  | .ok ents max _ rest, e, w' => e = .returned .nilIface ∧ ∃ (q : Nat) (ev' : Value) (f' : Nat → Value) (o' cap' : Nat) (l1' : List (HD.Bs × Nat)) (l2' : List ((HD.Bs × HD.Bs) × Nat)),
      q ≤ s.ents.length ∧ ents.length + q = s.ents.length ∧ DecMem B w' d f' { s with ents := ents, max := max } (cnt + q) ev' m1 m2 l1' l2' ∧ ev'.ownBlock = ev.ownBlock ∧ (∀ i, 7 ≤ i → i ≠ 11 → f' i = f i) ∧
      f' 11 = .slice (some ⟨g, o', none⟩) rest.length cap' ∧ Buf w' g o' cap' rest ∧ Upd (tabOwn d ev m1 m2) w w'

set_option maxHeartbeats 4000000 in
set_option maxRecDepth 100000 in
theorem pUpd_any (B : Nat) (w : World) (d : Nat) (f : Nat → Value) (s : HD.St) (cnt : Nat) (ev : Value) (m1 m2 : Nat) (l1 : List (HD.Bs × Nat)) (l2 : List ((HD.Bs × HD.Bs) × Nat)) (g o cap : Nat) (v : HD.Bs) (aI aN : Addr)
    (hM : DecMem B w d f s cnt ev m1 m2 l1 l2) (hsm : Small s cnt) (hb : Buf w g o cap v) (hg : IsU8 w g) (h11 : f 11 = .slice (some ⟨g, o, none⟩) v.length cap)
    (he : w.cell? ⟨3, 0, none⟩ = some (.iface 125 (.pointer (some aN)))) :
    Calls Tryd.prog 69 #[.pointer (some ⟨d, 0, none⟩)] w fun e w' => UEnds B w d g f s cnt ev m1 m2 aI aN (HD.pUpd s v) e w' := by
  have HM := Lib.hid hM
  have HB := Lib.hid hb
  have Hg := Lib.hid hg
  have H11 := Lib.hid h11
  have Hnot := Lib.hid (not_own_u8 hM.tab hg)
  have Hsm := Lib.hid hsm
  have He := Lib.hid he
  have c5 := hM.tab.row.cell' (i := 5) (by decide) hM.sized.size
  have c7 := hM.tab.row.cell' (i := 7) (by decide) hM.allowed
  have c11 := hM.tab.row.cell' (i := 11) (by decide) h11
  have c15 := hM.tab.row.cell' (i := 15) (by decide) hM.first
  obtain ⟨fst, hfst⟩ : ∃ b, b = s.first := ⟨_, rfl⟩
  obtain ⟨ts, hts⟩ : ∃ b, b = HD.tsize s.ents := ⟨_, rfl⟩
  rw [← hfst] at c15
  rw [← hts] at c5
  have Hfst := Lib.hid hfst
  have Hts := Lib.hid hts
  have hG := World.block_lt_of_cell? w _ he
  have hP : HD.pUpd s v = if fst = false ∧ 0 < ts then .bad .coding else match HD.rvi 5 v with | .more => .more | .over => .bad .coding | .ok n rest => if s.allowed < n then .bad .coding else .ok (HD.evict n s.ents) n none rest := by rw [hfst, hts]; rfl
  have HP := Lib.hid hP
  clear hM hb hg h11 hsm hfst hts he hP
  by_cases hlate : fst = false ∧ 0 < ts
  · obtain ⟨rfl, h0⟩ := hlate
    have h0I : (0 : Int) < (ts : Int) := by omega
    rw [if_pos ⟨rfl, h0⟩] at HP
    go_enter Tryd.func69, Tryd.ntmps69
    go_wp2_with fail
    refine (errNew_any _ _).mono ?_
    rintro e w1 ⟨⟨a, rfl, ha⟩, hb1⟩
    have Hb1 := Lib.hid hb1
    clear hb1
    go_wp2_with fail
    go_ret
    rw [HP.out]
    exact ⟨⟨_, rfl, a, rfl, ha⟩, Hb1.out⟩
  · rw [if_neg hlate] at HP
    have hgo : fst = true ∨ (fst = false ∧ ts = 0) := by
      cases fst with
      | true => exact Or.inl rfl
      | false => exact Or.inr ⟨rfl, by simp at hlate; exact hlate⟩
    clear hlate
    rcases hgo with rfl | ⟨rfl, rfl⟩
    all_goals
      go_enter Tryd.func69, Tryd.ntmps69
      go_wp2_with fail
      refine (varInt_any 5 (by decide) _ g o cap v _ HB.out He.out).mono ?_
      rintro e w1 ⟨hv, hb1⟩
      have d7 := (hb1.cell (p := ⟨d, 7, none⟩) (HM.out.tab.row.lt)).trans c7
      have HT1 := Lib.hid (HM.out.tab.below hb1)
      have Hb1 := Lib.hid hb1
      clear hb1 c5 c7 c11 c15
      cases hr : HD.rvi 5 v with
      | more =>
        rw [hr] at hv HP
        obtain ⟨s0, rfl⟩ := hv
        clear hr
        go_wp2_with fail
        go_ret
        rw [HP.out]
        exact ⟨rfl, Hb1.out⟩
      | over =>
        rw [hr] at hv HP
        obtain ⟨s0, a, rfl, ha⟩ := hv
        clear hr
        unfold codingErr
        go_wp2_with fail
        go_ret
        rw [HP.out]
        exact ⟨⟨_, rfl, a, rfl, ha⟩, Hb1.out⟩
      | ok n rest =>
        have hlt := HD.rvi_lt (by decide) hr
        rw [hr] at hv HP
        obtain ⟨o1, cap1, rfl, hbr⟩ := hv
        have HBr := Lib.hid hbr
        have hal := Hsm.out.allowed
        have HP2 : Hid (HD.pUpd s v = if s.allowed < n then .bad .coding else .ok (HD.evict n s.ents) n none rest) := HP.out
        clear hr hbr HP
        by_cases hna : s.allowed < n
        · have hnaI : (s.allowed : Int) < (n : Int) := by omega
          rw [if_pos hna] at HP2
          go_wp2_with fail
          refine (errNew_any _ _).mono ?_
          rintro e w2 ⟨⟨a, rfl, ha⟩, hb2⟩
          have Hb2 := Lib.hid (Hb1.out.trans (hb2.mono Hb1.out.size))
          clear hb2
          go_wp2_with fail
          go_ret
          rw [HP2.out]
          exact ⟨⟨_, rfl, a, rfl, ha.mono Hb1.out.size⟩, Hb2.out⟩
        · have hnaI : ¬ (s.allowed : Int) < (n : Int) := by omega
          have hnl : (n : Int) < 4294967296 := by omega
          have hnl2 : n < 2 ^ 32 := by omega
          rw [if_neg hna] at HP2
          go_wp2_with fail
          refine (setMax_any B _ d 16 f s.ents cnt s.max n ev m1 m2 l1 l2 HT1.out HM.out.sized (by have := Hsm.out.cnt; omega) hnl2 Hsm.out.size).mono ?_
          rintro e w2 ⟨rfl, q, ev', f', hq, hev, heb, hf, hs2, ht2, hu2⟩
          have e11 := ht2.row.cell' (i := 11) (v := .slice (some ⟨g, o, none⟩) v.length cap) (by decide) (by rw [hf 11 (by decide), H11.out])
          have fz := fun i => ht2.row.unfrozen i none
          have H1 := Lib.hid hev
          have H2 := Lib.hid heb
          have H3 := Lib.hid hf
          have H4 := Lib.hid hs2
          have H5 := Lib.hid ht2
          have H6 := Lib.hid hu2
          clear hev heb hf hs2 ht2 hu2
          go_wp2_with fail
          go_ret
          rw [HP2.out]
          have hrow := H5.out.row.set 11 (.slice (some ⟨g, o1, none⟩) rest.length cap1)
          have hT6 := H5.out.write (cnt' := cnt + q) (f' := putF f' 11 (.slice (some ⟨g, o1, none⟩) rest.length cap1)) hrow (fun i _ hi => other_set hi) (by simp [putF, H5.out.c0]) (by simp [putF, H5.out.c1]) (by simp [putF, H5.out.c2]) (by simp [putF, H5.out.c3]) (by simp [putF, H5.out.c4])
          have hlen : (HD.evict n s.ents).length + q = s.ents.length := by rw [H1.out, List.length_drop]; omega
          have hup : Upd (tabOwn d ev m1 m2) w w2 := Upd.step (Upd.of_below Hb1.out) H6.out
          refine ⟨rfl, q, ev', _, o1, cap1, _, _, hq, hlen, ⟨hT6, ⟨by simp [putF, H4.out.size], by simp [putF, H4.out.max]⟩, by simp [putF, H3.out, HM.out.allowed], by simp [putF, H3.out, HM.out.on], by simp [putF, H3.out, HM.out.most], by simp [putF, H3.out, HM.out.first]⟩, H2.out, fun i hi h11 => by simp only [putF]; rw [if_neg h11, H3.out i hi], by simp [putF], ?_, hup.setCell (Or.inl (Or.inl rfl)) _⟩
          obtain ⟨gc, gz, hgh⟩ := Hg.out
          exact HBr.out.kept fun _ => (other_set (fun e => Hnot.out (Or.inl e.symm))).trans (H6.out.block g (Nat.lt_of_lt_of_le (Lib.lt_of_heap hgh) Hb1.out.size) Hnot.out)
end Go.Proofs.YtjdmaflkafmmpaaDoor
