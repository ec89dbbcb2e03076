/-
  Texts of this seat, one behind the other: SmallF, HD8. What each one shows stands at its head. No condition.
-/
import Derived.Test.YtlkpeeoippbdoaaDoorMl4
/-
  The contract of laws.small, of two slices.
-/
namespace Go.Proofs.YtlkpeeoippbdoaaDoor
open Go.ChangeShapes Go.WideShapes Go.ChangeAt Go.RowKit

set_option maxHeartbeats 1000000 in
set_option maxRecDepth 100000 in
theorem small_any (g : Nat) (a1 a2 : Option Addr) (n1 n2 c1 c2 : Nat) (w : World) (h0 : w.cell? ⟨g, 0, none⟩ = some (.slice a1 n1 c1)) (h1 : w.cell? ⟨g, 1, none⟩ = some (.slice a2 n2 c2)) (hn1 : n1 ≤ 2 ^ 32) (hn2 : n2 ≤ 2 ^ 32) :
    Calls Tryd.prog 16 #[.slice (some ⟨g, 0, none⟩) 2 2] w fun e w' => e = .returned (.bool (decide (n1 + n2 ≤ 1048576))) ∧ Below w.heap.size w w' := by
  go_enter Tryd.func16, Tryd.ntmps16
  go_wp2_with fail
  go_loopw [3, 5, 8] (fun v3 _ v8 wr => wr = w ∧ ((v3 = .int .i64 0 ∧ v8 = .int .i64 0) ∨ (v3 = .int .i64 (n1 : Nat) ∧ v8 = .int .i64 1 ∧ n1 ≤ 1048576) ∨ (v3 = .int .i64 ((n1 + n2 : Nat) : Int) ∧ v8 = .int .i64 2 ∧ n1 + n2 ≤ 1048576))) (fun _ _ v8 _ => 2 - (intOf v8).toNat)
  case atStart => exact ⟨rfl, Or.inl ⟨rfl, rfl⟩⟩
  case round =>
    obtain ⟨rfl, hrel⟩ := hrel
    rcases hrel with ⟨rfl, rfl⟩ | ⟨rfl, rfl, hl⟩ | ⟨rfl, rfl, hl⟩
    · by_cases h : 1048576 < n1
      · have d1 : decide ((1048576 : Int) < (n1 : Int)) = true := decide_eq_true (by omega)
        have he : decide (n1 + n2 ≤ 1048576) = false := decide_eq_false (by omega)
        go_wp2_with fail
        go_ret
        exact ⟨by rw [he]; rfl, Below.refl _ _⟩
      · have d1 : decide ((1048576 : Int) < (n1 : Int)) = false := decide_eq_false (by omega)
        go_wp2_with fail
        exact ⟨⟨trivial, Or.inr (Or.inl ⟨rfl, rfl, by omega⟩)⟩, by simp [intOf]⟩
    · have hw : IntKind.i64.wrap ((1048576 : Int) - (n1 : Int)) = 1048576 - (n1 : Int) := by rw [IntKind.wrap_i64]; omega
      by_cases h : 1048576 - n1 < n2
      · have d1 : decide ((1048576 : Int) - (n1 : Int) < (n2 : Int)) = true := decide_eq_true (by omega)
        have he : decide (n1 + n2 ≤ 1048576) = false := decide_eq_false (by omega)
        go_wp2_with fail
        go_ret
        exact ⟨by rw [he]; rfl, Below.refl _ _⟩
      · have d1 : decide ((1048576 : Int) - (n1 : Int) < (n2 : Int)) = false := decide_eq_false (by omega)
        go_wp2_with fail
        exact ⟨⟨trivial, Or.inr (Or.inr ⟨by go_num, rfl, by omega⟩)⟩, by simp [intOf]⟩
    · have he : decide (n1 + n2 ≤ 1048576) = true := decide_eq_true hl
      go_wp2_with fail
      go_ret
      exact ⟨by rw [he]; rfl, Below.refl _ _⟩
end Go.Proofs.YtlkpeeoippbdoaaDoor
/-
  PLAIN: a decoder that must not emit reads the next block as if it had emitted. No program in sight.
-/
namespace Go.Proofs.YtlkpeeoippbdoaaDoor.HD

def loudCmds (b c : Bs) : List Cmd := [.write b, .close, .write c, .close]
def quietCmds (b c : Bs) : List Cmd := [.isOn, .on false, .write b, .close, .isOn, .on true, .isOn, .write c, .close]

theorem W_on : ∀ (n : Nat) (s : St) (out : List Fld) (v : Bs), v.length ≤ n → (W s out v).st.on = s.on
  | n, s, out, [], _ => by simp [W_nil]
  | 0, _, _, _ :: _, h => by simp at h
  | n + 1, s, out, b :: v, h => by
    rw [W_cons]
    cases hr : pRepr s (b :: v) with
    | more => rfl
    | bad e => rfl
    | ok ents max o rest =>
      have hl := pRepr_len hr
      exact W_on n { s with ents := ents, max := max, first := false } _ rest (by simp at *; omega)
theorem write_on (s : St) (save p : Bs) : (write s save p).st.on = s.on := by
  unfold write
  split
  · rfl
  · exact W_on _ s [] (save ++ p) (Nat.le_refl _)
theorem close_on (s : St) (save : Bs) : (close s save).st.on = s.on := by
  unfold close
  split <;> rfl

/-- The answers of the quiet decoder: whether it emits; and, if the block is right, what it tells of it and of the next one. -/
theorem quiet_run (s : St) (hs : s.on = true) (b c : Bs) : ∃ a0 a1 a2 a3 a4 a5 a6 l, drun ⟨s, []⟩ (quietCmds b c) = a0 :: a1 :: a2 :: a3 :: a4 :: a5 :: a6 :: l ∧ a0.flag = true ∧ a4.flag = false ∧ a6.flag = true ∧
    ∃ b0 b1 m, drun ⟨s, []⟩ (loudCmds b c) = b0 :: b1 :: m ∧ (b0.err = none → b1.err = none → a2.err = none ∧ a3.err = none ∧ a2.out = [] ∧ a3.out = [] ∧ l = m) := by
  refine ⟨_, _, _, _, _, _, _, _, rfl, hs, ?_, rfl, _, _, _, rfl, ?_⟩
  · show (close (write { s with on := false } [] b).st (write { s with on := false } [] b).save).st.on = false
    rw [close_on, write_on]
  · intro h0 h1
    have hw : write s [] b = W s [] b := by
      have := write_eq (s := s) (save := []) (p := b) rfl
      rwa [List.nil_append] at this
    have h0 : (W s [] b).err = none := by rw [← hw]; exact h0
    obtain ⟨hq, hon⟩ := W_quiet _ s [] b (Nat.le_refl _) hs h0
    have hwq : write { s with on := false } [] b = ⟨(W s [] b).st.quiet, [], (W s [] b).save, none⟩ := by
      have := write_eq (s := s.quiet) (save := []) (p := b) rfl
      rw [List.nil_append] at this
      exact this.trans hq
    have h1 : (close (write s [] b).st (write s [] b).save).err = none := h1
    rw [hw] at h1
    have hsv : (W s [] b).save = [] := by
      unfold close at h1
      split at h1
      · assumption
      · cases h1
    have hcl : close (W s [] b).st (W s [] b).save = ⟨{ (W s [] b).st with first := true }, [], [], none⟩ := by unfold close; rw [if_pos hsv]
    have hcq : close (W s [] b).st.quiet (W s [] b).save = ⟨{ (W s [] b).st.quiet with first := true }, [], [], none⟩ := by unfold close; rw [if_pos hsv]
    refine ⟨?_, ?_, ?_, rfl, ?_⟩
    · show (write { s with on := false } [] b).err = none
      rw [hwq]
    · show (close (write { s with on := false } [] b).st (write { s with on := false } [] b).save).err = none
      rw [hwq, hcq]
    · show (write { s with on := false } [] b).out = []
      rw [hwq]
    · show drun ⟨{ (close (write { s with on := false } [] b).st (write { s with on := false } [] b).save).st with on := true }, (close (write { s with on := false } [] b).st (write { s with on := false } [] b).save).save⟩ [.write c, .close] = drun ⟨(close (write s [] b).st (write s [] b).save).st, (close (write s [] b).st (write s [] b).save).save⟩ [.write c, .close]
      rw [hwq, hw]
      dsimp only
      rw [hcl, hcq]
      dsimp only [St.quiet]
      rw [show ({ (W s [] b).st with on := true, first := true } : St) = { (W s [] b).st with first := true } by rw [← hon]]
end Go.Proofs.YtlkpeeoippbdoaaDoor.HD
