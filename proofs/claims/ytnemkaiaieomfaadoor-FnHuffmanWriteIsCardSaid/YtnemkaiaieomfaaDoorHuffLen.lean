/-
  Contracts of HuffmanEncodeLength and HuffmanLength over the table of the codes' lengths: the number of bits of the codes, in whole bytes. Texts of at most 2^20 bytes.
-/
import Derived.Test.YtnemkaiaieomfaaDoorLaw
import Derived.Test.YtnemkaiaieomfaaDoorHuff
import Derived.Test.YtnemkaiaieomfaaDoorRows
import Derived.WalkKit
import Derived.WalkLawsBesides
import Derived.Outline
import Derived.Lib.Hide
import Derived.Lib.LaidTab
namespace Go.Proofs.YtnemkaiaieomfaaDoor
open Go.ChangeShapes Go.WideShapes Go.ChangeAt Go.RowKit

/-- The table of the codes' lengths lies in memory. -/
def LenTab (w : World) : Prop := ∀ i, i < 256 → w.cell? ⟨0, i, none⟩ = some (.int .u8 (HP.hlen i : Nat))

theorem hlen_lt (i : Nat) (_h : i < 256) : HP.hlen i ≤ 30 := by
  have : ∀ x ∈ HP.lensL, x ≤ 30 := by decide +kernel
  unfold HP.hlen
  rw [List.getD_eq_getElem?_getD]
  cases hx : HP.lensL[i]? with
  | none => simp
  | some x => exact this x (List.mem_of_getElem? hx)

theorem nbits_snoc (l : List UInt8) (c : UInt8) : HP.nbits (l ++ [c]) = HP.nbits l + HP.hlen c.toNat := by simp [HP.nbits]
theorem take_snoc (s : ByteArray) (k : Nat) (h : k < s.size) : s.data.toList.take (k + 1) = s.data.toList.take k ++ [s[k]] := by
  rw [List.take_succ_eq_append_getElem (by simpa using h)]; rfl
theorem nbits_le (l : List UInt8) : HP.nbits l ≤ 30 * l.length := by
  induction l with
  | nil => simp [HP.nbits]
  | cons c l ih =>
    have := hlen_lt c.toNat (by simpa using c.toNat_lt)
    simp only [HP.nbits, List.map_cons, List.sum_cons, List.length_cons] at ih ⊢
    omega

set_option maxHeartbeats 400000 in
theorem encLen_any (s : ByteArray) (w : World) (hs : s.size ≤ 1048576) (ht : LenTab w) :
    Calls Tryd.prog 14 #[.string s] w fun e w' => e = .returned (.int .u64 (HP.hencLen s.data.toList : Nat)) ∧ w = w' := by
  have Ht := Lib.hid ht
  clear ht
  go_enter Tryd.func14, Tryd.ntmps14
  go_wp2
  go_loop [3, 4] (fun n i => ∃ k : Nat, k ≤ s.size ∧ i = .int .i64 k ∧ n = .int .u64 (HP.nbits (s.data.toList.take k) : Nat)) (fun _ i => s.size - (intOf i).toNat)
  case atStart => exact ⟨0, Nat.zero_le _, rfl, rfl⟩
  case round =>
    obtain ⟨k, hk, rfl, rfl⟩ := hrel
    have hbd := nbits_le (s.data.toList.take k)
    have hlen := List.length_take_le k s.data.toList
    generalize hn : HP.nbits (s.data.toList.take k) = n at *
    have Hn := Lib.hid hn
    clear hn
    have hn30 : n ≤ 31457280 := by omega
    clear hbd hlen
    by_cases hlt : k < s.size
    · have hc := Ht.out s[k].toNat (by simpa using s[k].toNat_lt)
      have h30 := hlen_lt s[k].toNat (by simpa using s[k].toNat_lt)
      have h256 : (s[k].toNat : Int) < 256 := by have := s[k].toNat_lt; omega
      have Hnext : Hid (HP.nbits (s.data.toList.take (k + 1)) = HP.nbits (s.data.toList.take k) + HP.hlen s[k].toNat) := by
        rw [take_snoc s k hlt]; exact nbits_snoc _ _
      go_wp2
      refine ⟨⟨k + 1, by omega, by go_num, by rw [Hnext.out, Hn.out]; go_num⟩, by simp [intOf]; omega⟩
    · go_wp2
      go_ret
      have e : s.data.toList.take k = s.data.toList := List.take_of_length_le (by simp; omega)
      have h2 := Hn.out
      rw [e] at h2
      exact ⟨ret_int (by rw [HP.hencLen, h2]; omega), rfl⟩

theorem huffmanLength_any (s : ByteArray) (w : World) (hs : s.size ≤ 1048576) (ht : LenTab w) :
    Calls Tryd.prog 9 #[.string s] w fun e w' => e = .returned (.int .i64 (HP.hencLen s.data.toList : Nat)) ∧ w = w' := by
  have hb : HP.hencLen s.data.toList ≤ 31457280 := by
    have := nbits_le s.data.toList
    unfold HP.hencLen
    simp only [Array.length_toList, ByteArray.size_data] at this
    omega
  have H := Lib.hid ht
  clear ht
  generalize hq : HP.hencLen s.data.toList = q at *
  have Hq := Lib.hid hq
  clear hq
  go_enter Tryd.func9, Tryd.ntmps9
  go_wp2_with (go_at_call 14; refine (encLen_any _ _ hs H.out).mono ?_; rintro e w' ⟨rfl, rfl⟩; rw [Hq.out])
  go_ret
  exact ⟨rfl, rfl⟩
end Go.Proofs.YtnemkaiaieomfaaDoor
