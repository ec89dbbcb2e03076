/-
  The contract of short: whether texts are few enough bytes. No condition but bounds on lengths.
-/
import Derived.Test.YtnemkaiaieomfaaDoorRows
import Derived.Test.YtnemkaiaieomfaaDoorLaw
import Derived.WalkKit
import Derived.WalkLawsBesides
import Derived.ProofKit
import Derived.OpenShut
import Derived.Outline
import Derived.Lib.Hide
namespace Go.Proofs.YtnemkaiaieomfaaDoor
open Go.ChangeShapes Go.WideShapes Go.ChangeAt Go.RowKit

/-- The sum of texts' lengths. -/
def sumSz (l : List ByteArray) : Nat := (l.map (·.size)).sum
theorem sumSz_take {l : List ByteArray} {k : Nat} (h : k < l.length) : sumSz (l.take (k + 1)) = sumSz (l.take k) + (l[k]'h).size := by
  unfold sumSz
  rw [List.take_succ_eq_append_getElem h, List.map_append, List.sum_append]
  simp only [List.map_cons, List.map_nil, List.sum_cons, List.sum_nil, Nat.add_zero]
theorem sumSz_le {l : List ByteArray} (k : Nat) : sumSz (l.take k) ≤ sumSz l := by
  unfold sumSz
  conv => rhs; rw [← List.take_append_drop k l, List.map_append, List.sum_append]
  exact Nat.le_add_right _ _

theorem short_any (b off cap : Nat) (ss : List ByteArray) (w : World) (hl : ss.length ≤ maxLen) (hs : ∀ s ∈ ss, s.size ≤ maxLen)
    (hc : ∀ i (h : i < ss.length), w.cell? ⟨b, off + i, none⟩ = some (.string (ss[i]'h))) :
    Calls Tryd.prog 7 #[.slice (some ⟨b, off, none⟩) ss.length cap] w fun e w' => e = .returned (.bool (decide (sumSz ss ≤ 1048576))) ∧ w = w' := by
  unfold maxLen at hl hs
  have Hc := Lib.hid hc
  have Hs := Lib.hid hs
  clear hc hs
  go_enter Tryd.func7, Tryd.ntmps7
  go_wp2
  go_loop [3, 8] (fun n i => ∃ k : Nat, k ≤ ss.length ∧ i = .int .i64 k ∧ n = .int .i64 (sumSz (ss.take k)) ∧ sumSz (ss.take k) ≤ 1048576) (fun _ i => ss.length - (intOf i).toNat)
  case atStart => exact ⟨0, Nat.zero_le _, rfl, rfl, by simp [sumSz]⟩
  case round =>
    obtain ⟨k, hk, rfl, rfl, hsum⟩ := hrel
    generalize hn : sumSz (ss.take k) = n at *
    have Hn := Lib.hid hn
    clear hn
    by_cases hlt : k < ss.length
    · have hcell := Hc.out k hlt
      have hsz := Hs.out _ (List.getElem_mem hlt)
      have Hnext := Lib.hid (sumSz_take hlt)
      have Hle := Lib.hid (sumSz_le (l := ss) (k + 1))
      generalize ss[k]'hlt = s at *
      by_cases hb : s.size + n ≤ 1048576
      · go_wp2
        go_round
        case rel => exact ⟨k + 1, by omega, by go_num, by rw [Hnext.out, Hn.out]; go_num, by rw [Hnext.out, Hn.out]; omega⟩
        case measure => simp [intOf]; omega
      · go_wp2
        go_ret
        exact ⟨by rw [decide_eq_false (show ¬ sumSz ss ≤ 1048576 by have := Hle.out; rw [Hnext.out, Hn.out] at this; omega)]; rfl, rfl⟩
    · go_wp2
      go_ret
      have e : k = ss.length := by omega
      have h2 := Hn.out
      rw [e, List.take_length] at h2
      exact ⟨by rw [decide_eq_true (show sumSz ss ≤ 1048576 by omega)]; rfl, rfl⟩
end Go.Proofs.YtnemkaiaieomfaaDoor
