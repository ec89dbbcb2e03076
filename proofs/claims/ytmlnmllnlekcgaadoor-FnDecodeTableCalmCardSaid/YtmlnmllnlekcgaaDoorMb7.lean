/-
  Texts of this seat, one behind the other: LawF, ReadF, EqualF, DAllow, DSteps, DWr, Cmds, HD7. What each one shows stands at its head. No condition.
-/
import Derived.Test.YtmlnmllnlekcgaaDoorMb6
/-
  The contracts of the laws' own functions: isSize, whole, spec.Integer, spec.Update.
-/
namespace Go.Proofs.YtmlnmllnlekcgaaDoor
open Go.ChangeShapes Go.WideShapes Go.ChangeAt Go.RowKit

theorem isSize_any (n : Int) (w : World) : Calls Tryd.prog 5 #[.int .i64 n] w fun e w' => e = .returned (.bool (decide (0 ≤ n ∧ n ≤ 2147483648))) ∧ w' = w := by
  rcases Classical.em (0 ≤ n) with h0 | h0
  · have d0 : decide (0 ≤ n) = true := decide_eq_true h0
    go_enter Tryd.func5, Tryd.ntmps5
    go_wp2
    go_ret
    exact ⟨ret_bool (by simp [h0]), rfl⟩
  · have d0 : decide (0 ≤ n) = false := decide_eq_false h0
    have hr : decide (0 ≤ n ∧ n ≤ 2147483648) = false := decide_eq_false fun h => h0 h.1
    rw [hr]
    go_enter Tryd.func5, Tryd.ntmps5
    go_wp2
    go_ret
    exact ⟨rfl, rfl⟩

theorem whole_any (sa : Option Addr) (n c : Nat) (w : World) : Calls Tryd.prog 11 #[.slice sa n c] w fun e w' => e = .returned (.slice (some ⟨w.heap.size, 0, none⟩) 2 2) ∧ w' = w.alloc (.cells #[.int .i64 0, .slice sa n c, .int .i64 0, .bool false, .int .i64 1, .slice none 0 0, .int .i64 0, .bool false] 58) := by
  go_enter Tryd.func11, Tryd.ntmps11
  go_wp2
  go_ret
  exact ⟨rfl, rfl⟩

theorem news_one (w : World) (x : Value) (t : TypeId) : ∀ j y, [x][j]? = some y → (w.alloc (.cells #[x] t)).cell? ((⟨w.heap.size, 0, none⟩ : Addr).add j) = some y := by
  intro j y hy
  have hj : j = 0 := by
    have := (List.getElem?_eq_some_iff.1 hy).1
    simpa using this
  subst hj
  rw [Lib.addr_add, Nat.zero_add, Lib.cell_of_heap (heap_alloc_new w _)]
  simpa using hy
theorem own_one (w : World) (x : UInt8) : (w.alloc (.cells #[.int .u8 (x.toNat : Nat)] 5)).ownsRow w.heap.size 5 1 (.slice (some ⟨w.heap.size, 0, none⟩) 1 1) 1 (Lib.byteCells [x]) := by
  refine ⟨rfl, Or.inr ⟨w.heap.size, 1, #[.int .u8 (x.toNat : Nat)], rfl, Nat.le_refl _, heap_alloc_new w _, Nat.le_refl _, by decide, rfl, rfl⟩⟩
set_option maxRecDepth 100000 in
theorem integer_any5 (n : Nat) (w : World) (hn : n ≤ 2 ^ 31) : Calls Tryd.prog 22 #[.int .i64 32, .int .i64 5, .int .i64 (n : Nat)] w fun e w' => ∃ a cap, e = .returned (.slice a (HD.intg 32 5 n).length cap) ∧
    w'.ownsRow w.heap.size 5 1 (.slice a (HD.intg 32 5 n).length cap) (HD.intg 32 5 n).length (Lib.byteCells (HD.intg 32 5 n)) ∧ Below w.heap.size w w' := by
  rcases Nat.lt_or_ge n 31 with hlt | hge
  · have d0 : decide ((n : Int) < 31) = true := by simp; omega
    go_enter Tryd.func22, Tryd.ntmps22
    go_wp2
    go_ret
    have e : HD.intg 32 5 n = [UInt8.ofNat (32 + n)] := by unfold HD.intg; rw [if_pos (by simp; omega)]
    rw [e]
    refine ⟨_, 1, rfl, ?_, (Below.refl _ _).alloc (Nat.le_refl _) _⟩
    have hx : (32 : Int) + (n : Int) = ((UInt8.ofNat (32 + n)).toNat : Int) := by rw [HD.toNat_of (by omega)]; omega
    first | rw [hx] | rw [show (n : Int) = ((UInt8.ofNat (32 + n)).toNat : Int) by rw [HD.toNat_of (by omega)]; omega]
    exact own_one w _
  · have d0 : decide ((n : Int) < 31) = false := by simp; omega
    obtain ⟨N, hN⟩ : ∃ N, N = n - 31 := ⟨_, rfl⟩
    have eN : (n : Int) - 31 = (N : Int) := by omega
    have hb : N < 2 ^ 31 := by omega
    have hI : HD.intg 32 5 n = UInt8.ofNat (32 + 31) :: HD.digs N := by unfold HD.intg; rw [if_neg (by simp; omega), hN]
    have HI := Lib.hid hI
    clear hI hN
    obtain ⟨i0, hi, hz0, hz1, hz2⟩ := info_parts infoU8
    go_enter Tryd.func22, Tryd.ntmps22
    go_wp2
    clear eN d0 hge hn
    have hst := own_one w (UInt8.ofNat (32 + 31))
    rw [HD.toNat_of (by decide)] at hst
    have Hst := Lib.hid hst
    clear hst
    go_loopw [2, 8] (fun v2 v8 wr => ∃ (c : Nat) (pre : HD.Bs) (a : Option Addr) (cap : Nat), v2 = .int .i64 (c : Nat) ∧ c < 2 ^ 31 ∧ HD.intg 32 5 n = pre ++ HD.digs c ∧ v8 = .slice a pre.length cap ∧ wr.ownsRow w.heap.size 5 1 (.slice a pre.length cap) pre.length (Lib.byteCells pre) ∧ Below w.heap.size w wr) (fun v2 _ _ => (intOf v2).toNat)
    case atStart => exact ⟨N, [UInt8.ofNat (32 + 31)], _, 1, rfl, hb, HI.out, rfl, Hst.out, (Below.refl _ _).alloc (Nat.le_refl _) _⟩
    case round =>
      obtain ⟨c, pre, a, cap, rfl, hc, hpre, rfl, hown, hbl⟩ := hrel
      have Hpre := Lib.hid hpre
      have Hown := Lib.hid hown
      have Hbl := Lib.hid hbl
      clear hpre hown hbl
      rcases Nat.lt_or_ge c 128 with hlt | hge
      · have d1 : decide ((128 : Int) ≤ (c : Int)) = false := by simp; omega
        have hlen : pre.length ≤ 16 := by
          have h1 := congrArg List.length Hpre.out
          have h2 := HD.digs_len N 5 (by omega)
          rw [HI.out] at h1
          simp only [List.length_cons, List.length_append] at h1
          omega
        have hown2 : (wr.alloc (.cells #[.int .u8 ((c : Nat))] 5)).ownsRow w.heap.size 5 1 (.slice a pre.length cap) pre.length (Lib.byteCells pre) := ownsRow_of_heap Hown.out fun g hg => Below.heap_alloc _ _ _ (Hown.out.lt g hg).2
        have Hown2 := Lib.hid hown2
        have Hnews := Lib.hid (news_one wr (.int .u8 ((c : Nat))) 5)
        have hsz := Hbl.out.size
        clear hown2
        go_wp2_with (at_builtin; go_must (refine wpList_append_own_at _ rfl _ _ 28 rfl w.heap.size 5 i0 (.int .u8 0) 1 1 Tryd.underlying28 hi hz0 hz1 hz2 rfl (by decide) (.slice a pre.length cap) pre.length (Lib.byteCells pre) rfl (by exact Hown2.out) ⟨wr.heap.size, 0, none⟩ 1 1 [.int .u8 ((c : Nat))] rfl rfl (by exact Hnews.out) (by intro x hx; simp at hx; subst hx; rfl) (by unfold maxLen; omega) (by omega) (by simp; omega) ?_); intro v1 w1 hown1 hgrow1 _ _; have Hown1 := Lib.hid hown1; have Hgrow1 := Lib.hid hgrow1; clear hown1 hgrow1)
        go_ret
        have hd : HD.digs c = [UInt8.ofNat c] := by rw [HD.digs, dif_neg (by omega)]
        have he : Lib.byteCells (HD.intg 32 5 n) = Lib.byteCells pre ++ [.int .u8 (c : Nat)] := by
          rw [Hpre.out, hd, Lib.byteCells, List.map_append]
          simp [Lib.byteCells]
          omega
        have hln : (HD.intg 32 5 n).length = pre.length + 1 := by rw [Hpre.out, hd]; simp
        have hown1 := Hown1.out
        obtain ⟨a1, c1, rfl⟩ := own_form hown1
        rw [he, hln]
        exact ⟨a1, c1, rfl, hown1, (Hbl.out.alloc Hbl.out.size _).grown Hgrow1.out (by simp; omega) (fun g hg => (Hown.out.lt g hg).1)⟩
      · have d1 : decide ((128 : Int) ≤ (c : Int)) = true := by simp; omega
        have hlen : pre.length ≤ 16 := by
          have h1 := congrArg List.length Hpre.out
          have h2 := HD.digs_len N 5 (by omega)
          rw [HI.out] at h1
          simp only [List.length_cons, List.length_append] at h1
          omega
        have hown2 : (wr.alloc (.cells #[.int .u8 (((c : Int) % 128 + 128))] 5)).ownsRow w.heap.size 5 1 (.slice a pre.length cap) pre.length (Lib.byteCells pre) := ownsRow_of_heap Hown.out fun g hg => Below.heap_alloc _ _ _ (Hown.out.lt g hg).2
        have Hown2 := Lib.hid hown2
        have Hnews := Lib.hid (news_one wr (.int .u8 (((c : Int) % 128 + 128))) 5)
        have hsz := Hbl.out.size
        clear hown2
        go_wp2_with (at_builtin; go_must (refine wpList_append_own_at _ rfl _ _ 28 rfl w.heap.size 5 i0 (.int .u8 0) 1 1 Tryd.underlying28 hi hz0 hz1 hz2 rfl (by decide) (.slice a pre.length cap) pre.length (Lib.byteCells pre) rfl (by exact Hown2.out) ⟨wr.heap.size, 0, none⟩ 1 1 [.int .u8 (((c : Int) % 128 + 128))] rfl rfl (by exact Hnews.out) (by intro x hx; simp at hx; subst hx; rfl) (by unfold maxLen; omega) (by omega) (by simp; omega) ?_); intro v1 w1 hown1 hgrow1 _ _; have Hown1 := Lib.hid hown1; have Hgrow1 := Lib.hid hgrow1; clear hown1 hgrow1)
        have hown1 := Hown1.out
        obtain ⟨a1, c1, rfl⟩ := own_form hown1
        have hd : HD.digs c = UInt8.ofNat (c % 128 + 128) :: HD.digs (c / 128) := by rw [HD.digs, dif_pos (by omega)]
        have he : Lib.byteCells (pre ++ [UInt8.ofNat (c % 128 + 128)]) = Lib.byteCells pre ++ [.int .u8 ((c : Int) % 128 + 128)] := by
          rw [Lib.byteCells, List.map_append]
          simp [Lib.byteCells]
          omega
        have hln : (pre ++ [UInt8.ofNat (c % 128 + 128)]).length = pre.length + 1 := by simp
        refine ⟨⟨c / 128, pre ++ [UInt8.ofNat (c % 128 + 128)], a1, c1, by go_num, by omega, by rw [Hpre.out, hd]; simp, by rw [hln], ?_, (Hbl.out.alloc Hbl.out.size _).grown Hgrow1.out (by simp; omega) (fun g hg => (Hown.out.lt g hg).1)⟩, by simp [intOf]; omega⟩
        rw [he, hln]
        exact hown1
set_option maxRecDepth 100000 in
theorem integer_any7 (n : Nat) (w : World) (hn : n ≤ 2 ^ 31) : Calls Tryd.prog 22 #[.int .i64 128, .int .i64 7, .int .i64 (n : Nat)] w fun e w' => ∃ a cap, e = .returned (.slice a (HD.intg 128 7 n).length cap) ∧
    w'.ownsRow w.heap.size 5 1 (.slice a (HD.intg 128 7 n).length cap) (HD.intg 128 7 n).length (Lib.byteCells (HD.intg 128 7 n)) ∧ Below w.heap.size w w' := by
  rcases Nat.lt_or_ge n 127 with hlt | hge
  · have d0 : decide ((n : Int) < 127) = true := by simp; omega
    go_enter Tryd.func22, Tryd.ntmps22
    go_wp2
    go_ret
    have e : HD.intg 128 7 n = [UInt8.ofNat (128 + n)] := by unfold HD.intg; rw [if_pos (by simp; omega)]
    rw [e]
    refine ⟨_, 1, rfl, ?_, (Below.refl _ _).alloc (Nat.le_refl _) _⟩
    have hx : (128 : Int) + (n : Int) = ((UInt8.ofNat (128 + n)).toNat : Int) := by rw [HD.toNat_of (by omega)]; omega
    first | rw [hx] | rw [show (n : Int) = ((UInt8.ofNat (128 + n)).toNat : Int) by rw [HD.toNat_of (by omega)]; omega]
    exact own_one w _
  · have d0 : decide ((n : Int) < 127) = false := by simp; omega
    obtain ⟨N, hN⟩ : ∃ N, N = n - 127 := ⟨_, rfl⟩
    have eN : (n : Int) - 127 = (N : Int) := by omega
    have hb : N < 2 ^ 31 := by omega
    have hI : HD.intg 128 7 n = UInt8.ofNat (128 + 127) :: HD.digs N := by unfold HD.intg; rw [if_neg (by simp; omega), hN]
    have HI := Lib.hid hI
    clear hI hN
    obtain ⟨i0, hi, hz0, hz1, hz2⟩ := info_parts infoU8
    go_enter Tryd.func22, Tryd.ntmps22
    go_wp2
    clear eN d0 hge hn
    have hst := own_one w (UInt8.ofNat (128 + 127))
    rw [HD.toNat_of (by decide)] at hst
    have Hst := Lib.hid hst
    clear hst
    go_loopw [2, 8] (fun v2 v8 wr => ∃ (c : Nat) (pre : HD.Bs) (a : Option Addr) (cap : Nat), v2 = .int .i64 (c : Nat) ∧ c < 2 ^ 31 ∧ HD.intg 128 7 n = pre ++ HD.digs c ∧ v8 = .slice a pre.length cap ∧ wr.ownsRow w.heap.size 5 1 (.slice a pre.length cap) pre.length (Lib.byteCells pre) ∧ Below w.heap.size w wr) (fun v2 _ _ => (intOf v2).toNat)
    case atStart => exact ⟨N, [UInt8.ofNat (128 + 127)], _, 1, rfl, hb, HI.out, rfl, Hst.out, (Below.refl _ _).alloc (Nat.le_refl _) _⟩
    case round =>
      obtain ⟨c, pre, a, cap, rfl, hc, hpre, rfl, hown, hbl⟩ := hrel
      have Hpre := Lib.hid hpre
      have Hown := Lib.hid hown
      have Hbl := Lib.hid hbl
      clear hpre hown hbl
      rcases Nat.lt_or_ge c 128 with hlt | hge
      · have d1 : decide ((128 : Int) ≤ (c : Int)) = false := by simp; omega
        have hlen : pre.length ≤ 16 := by
          have h1 := congrArg List.length Hpre.out
          have h2 := HD.digs_len N 5 (by omega)
          rw [HI.out] at h1
          simp only [List.length_cons, List.length_append] at h1
          omega
        have hown2 : (wr.alloc (.cells #[.int .u8 ((c : Nat))] 5)).ownsRow w.heap.size 5 1 (.slice a pre.length cap) pre.length (Lib.byteCells pre) := ownsRow_of_heap Hown.out fun g hg => Below.heap_alloc _ _ _ (Hown.out.lt g hg).2
        have Hown2 := Lib.hid hown2
        have Hnews := Lib.hid (news_one wr (.int .u8 ((c : Nat))) 5)
        have hsz := Hbl.out.size
        clear hown2
        go_wp2_with (at_builtin; go_must (refine wpList_append_own_at _ rfl _ _ 28 rfl w.heap.size 5 i0 (.int .u8 0) 1 1 Tryd.underlying28 hi hz0 hz1 hz2 rfl (by decide) (.slice a pre.length cap) pre.length (Lib.byteCells pre) rfl (by exact Hown2.out) ⟨wr.heap.size, 0, none⟩ 1 1 [.int .u8 ((c : Nat))] rfl rfl (by exact Hnews.out) (by intro x hx; simp at hx; subst hx; rfl) (by unfold maxLen; omega) (by omega) (by simp; omega) ?_); intro v1 w1 hown1 hgrow1 _ _; have Hown1 := Lib.hid hown1; have Hgrow1 := Lib.hid hgrow1; clear hown1 hgrow1)
        go_ret
        have hd : HD.digs c = [UInt8.ofNat c] := by rw [HD.digs, dif_neg (by omega)]
        have he : Lib.byteCells (HD.intg 128 7 n) = Lib.byteCells pre ++ [.int .u8 (c : Nat)] := by
          rw [Hpre.out, hd, Lib.byteCells, List.map_append]
          simp [Lib.byteCells]
          omega
        have hln : (HD.intg 128 7 n).length = pre.length + 1 := by rw [Hpre.out, hd]; simp
        have hown1 := Hown1.out
        obtain ⟨a1, c1, rfl⟩ := own_form hown1
        rw [he, hln]
        exact ⟨a1, c1, rfl, hown1, (Hbl.out.alloc Hbl.out.size _).grown Hgrow1.out (by simp; omega) (fun g hg => (Hown.out.lt g hg).1)⟩
      · have d1 : decide ((128 : Int) ≤ (c : Int)) = true := by simp; omega
        have hlen : pre.length ≤ 16 := by
          have h1 := congrArg List.length Hpre.out
          have h2 := HD.digs_len N 5 (by omega)
          rw [HI.out] at h1
          simp only [List.length_cons, List.length_append] at h1
          omega
        have hown2 : (wr.alloc (.cells #[.int .u8 (((c : Int) % 128 + 128))] 5)).ownsRow w.heap.size 5 1 (.slice a pre.length cap) pre.length (Lib.byteCells pre) := ownsRow_of_heap Hown.out fun g hg => Below.heap_alloc _ _ _ (Hown.out.lt g hg).2
        have Hown2 := Lib.hid hown2
        have Hnews := Lib.hid (news_one wr (.int .u8 (((c : Int) % 128 + 128))) 5)
        have hsz := Hbl.out.size
        clear hown2
        go_wp2_with (at_builtin; go_must (refine wpList_append_own_at _ rfl _ _ 28 rfl w.heap.size 5 i0 (.int .u8 0) 1 1 Tryd.underlying28 hi hz0 hz1 hz2 rfl (by decide) (.slice a pre.length cap) pre.length (Lib.byteCells pre) rfl (by exact Hown2.out) ⟨wr.heap.size, 0, none⟩ 1 1 [.int .u8 (((c : Int) % 128 + 128))] rfl rfl (by exact Hnews.out) (by intro x hx; simp at hx; subst hx; rfl) (by unfold maxLen; omega) (by omega) (by simp; omega) ?_); intro v1 w1 hown1 hgrow1 _ _; have Hown1 := Lib.hid hown1; have Hgrow1 := Lib.hid hgrow1; clear hown1 hgrow1)
        have hown1 := Hown1.out
        obtain ⟨a1, c1, rfl⟩ := own_form hown1
        have hd : HD.digs c = UInt8.ofNat (c % 128 + 128) :: HD.digs (c / 128) := by rw [HD.digs, dif_pos (by omega)]
        have he : Lib.byteCells (pre ++ [UInt8.ofNat (c % 128 + 128)]) = Lib.byteCells pre ++ [.int .u8 ((c : Int) % 128 + 128)] := by
          rw [Lib.byteCells, List.map_append]
          simp [Lib.byteCells]
          omega
        have hln : (pre ++ [UInt8.ofNat (c % 128 + 128)]).length = pre.length + 1 := by simp
        refine ⟨⟨c / 128, pre ++ [UInt8.ofNat (c % 128 + 128)], a1, c1, by go_num, by omega, by rw [Hpre.out, hd]; simp, by rw [hln], ?_, (Hbl.out.alloc Hbl.out.size _).grown Hgrow1.out (by simp; omega) (fun g hg => (Hown.out.lt g hg).1)⟩, by simp [intOf]; omega⟩
        rw [he, hln]
        exact hown1
set_option maxRecDepth 100000 in
theorem integer_any70 (n : Nat) (w : World) (hn : n ≤ 2 ^ 31) : Calls Tryd.prog 22 #[.int .i64 0, .int .i64 7, .int .i64 (n : Nat)] w fun e w' => ∃ a cap, e = .returned (.slice a (HD.intg 0 7 n).length cap) ∧
    w'.ownsRow w.heap.size 5 1 (.slice a (HD.intg 0 7 n).length cap) (HD.intg 0 7 n).length (Lib.byteCells (HD.intg 0 7 n)) ∧ Below w.heap.size w w' := by
  rcases Nat.lt_or_ge n 127 with hlt | hge
  · have d0 : decide ((n : Int) < 127) = true := by simp; omega
    go_enter Tryd.func22, Tryd.ntmps22
    go_wp2
    go_ret
    have e : HD.intg 0 7 n = [UInt8.ofNat (0 + n)] := by unfold HD.intg; rw [if_pos (by simp; omega)]
    rw [e]
    refine ⟨_, 1, rfl, ?_, (Below.refl _ _).alloc (Nat.le_refl _) _⟩
    have hx : (0 : Int) + (n : Int) = ((UInt8.ofNat (0 + n)).toNat : Int) := by rw [HD.toNat_of (by omega)]; omega
    first | rw [hx] | rw [show (n : Int) = ((UInt8.ofNat (0 + n)).toNat : Int) by rw [HD.toNat_of (by omega)]; omega]
    exact own_one w _
  · have d0 : decide ((n : Int) < 127) = false := by simp; omega
    obtain ⟨N, hN⟩ : ∃ N, N = n - 127 := ⟨_, rfl⟩
    have eN : (n : Int) - 127 = (N : Int) := by omega
    have hb : N < 2 ^ 31 := by omega
    have hI : HD.intg 0 7 n = UInt8.ofNat (0 + 127) :: HD.digs N := by unfold HD.intg; rw [if_neg (by simp; omega), hN]
    have HI := Lib.hid hI
    clear hI hN
    obtain ⟨i0, hi, hz0, hz1, hz2⟩ := info_parts infoU8
    go_enter Tryd.func22, Tryd.ntmps22
    go_wp2
    clear eN d0 hge hn
    have hst := own_one w (UInt8.ofNat (0 + 127))
    rw [HD.toNat_of (by decide)] at hst
    have Hst := Lib.hid hst
    clear hst
    go_loopw [2, 8] (fun v2 v8 wr => ∃ (c : Nat) (pre : HD.Bs) (a : Option Addr) (cap : Nat), v2 = .int .i64 (c : Nat) ∧ c < 2 ^ 31 ∧ HD.intg 0 7 n = pre ++ HD.digs c ∧ v8 = .slice a pre.length cap ∧ wr.ownsRow w.heap.size 5 1 (.slice a pre.length cap) pre.length (Lib.byteCells pre) ∧ Below w.heap.size w wr) (fun v2 _ _ => (intOf v2).toNat)
    case atStart => exact ⟨N, [UInt8.ofNat (0 + 127)], _, 1, rfl, hb, HI.out, rfl, Hst.out, (Below.refl _ _).alloc (Nat.le_refl _) _⟩
    case round =>
      obtain ⟨c, pre, a, cap, rfl, hc, hpre, rfl, hown, hbl⟩ := hrel
      have Hpre := Lib.hid hpre
      have Hown := Lib.hid hown
      have Hbl := Lib.hid hbl
      clear hpre hown hbl
      rcases Nat.lt_or_ge c 128 with hlt | hge
      · have d1 : decide ((128 : Int) ≤ (c : Int)) = false := by simp; omega
        have hlen : pre.length ≤ 16 := by
          have h1 := congrArg List.length Hpre.out
          have h2 := HD.digs_len N 5 (by omega)
          rw [HI.out] at h1
          simp only [List.length_cons, List.length_append] at h1
          omega
        have hown2 : (wr.alloc (.cells #[.int .u8 ((c : Nat))] 5)).ownsRow w.heap.size 5 1 (.slice a pre.length cap) pre.length (Lib.byteCells pre) := ownsRow_of_heap Hown.out fun g hg => Below.heap_alloc _ _ _ (Hown.out.lt g hg).2
        have Hown2 := Lib.hid hown2
        have Hnews := Lib.hid (news_one wr (.int .u8 ((c : Nat))) 5)
        have hsz := Hbl.out.size
        clear hown2
        go_wp2_with (at_builtin; go_must (refine wpList_append_own_at _ rfl _ _ 28 rfl w.heap.size 5 i0 (.int .u8 0) 1 1 Tryd.underlying28 hi hz0 hz1 hz2 rfl (by decide) (.slice a pre.length cap) pre.length (Lib.byteCells pre) rfl (by exact Hown2.out) ⟨wr.heap.size, 0, none⟩ 1 1 [.int .u8 ((c : Nat))] rfl rfl (by exact Hnews.out) (by intro x hx; simp at hx; subst hx; rfl) (by unfold maxLen; omega) (by omega) (by simp; omega) ?_); intro v1 w1 hown1 hgrow1 _ _; have Hown1 := Lib.hid hown1; have Hgrow1 := Lib.hid hgrow1; clear hown1 hgrow1)
        go_ret
        have hd : HD.digs c = [UInt8.ofNat c] := by rw [HD.digs, dif_neg (by omega)]
        have he : Lib.byteCells (HD.intg 0 7 n) = Lib.byteCells pre ++ [.int .u8 (c : Nat)] := by
          rw [Hpre.out, hd, Lib.byteCells, List.map_append]
          simp [Lib.byteCells]
          omega
        have hln : (HD.intg 0 7 n).length = pre.length + 1 := by rw [Hpre.out, hd]; simp
        have hown1 := Hown1.out
        obtain ⟨a1, c1, rfl⟩ := own_form hown1
        rw [he, hln]
        exact ⟨a1, c1, rfl, hown1, (Hbl.out.alloc Hbl.out.size _).grown Hgrow1.out (by simp; omega) (fun g hg => (Hown.out.lt g hg).1)⟩
      · have d1 : decide ((128 : Int) ≤ (c : Int)) = true := by simp; omega
        have hlen : pre.length ≤ 16 := by
          have h1 := congrArg List.length Hpre.out
          have h2 := HD.digs_len N 5 (by omega)
          rw [HI.out] at h1
          simp only [List.length_cons, List.length_append] at h1
          omega
        have hown2 : (wr.alloc (.cells #[.int .u8 (((c : Int) % 128 + 128))] 5)).ownsRow w.heap.size 5 1 (.slice a pre.length cap) pre.length (Lib.byteCells pre) := ownsRow_of_heap Hown.out fun g hg => Below.heap_alloc _ _ _ (Hown.out.lt g hg).2
        have Hown2 := Lib.hid hown2
        have Hnews := Lib.hid (news_one wr (.int .u8 (((c : Int) % 128 + 128))) 5)
        have hsz := Hbl.out.size
        clear hown2
        go_wp2_with (at_builtin; go_must (refine wpList_append_own_at _ rfl _ _ 28 rfl w.heap.size 5 i0 (.int .u8 0) 1 1 Tryd.underlying28 hi hz0 hz1 hz2 rfl (by decide) (.slice a pre.length cap) pre.length (Lib.byteCells pre) rfl (by exact Hown2.out) ⟨wr.heap.size, 0, none⟩ 1 1 [.int .u8 (((c : Int) % 128 + 128))] rfl rfl (by exact Hnews.out) (by intro x hx; simp at hx; subst hx; rfl) (by unfold maxLen; omega) (by omega) (by simp; omega) ?_); intro v1 w1 hown1 hgrow1 _ _; have Hown1 := Lib.hid hown1; have Hgrow1 := Lib.hid hgrow1; clear hown1 hgrow1)
        have hown1 := Hown1.out
        obtain ⟨a1, c1, rfl⟩ := own_form hown1
        have hd : HD.digs c = UInt8.ofNat (c % 128 + 128) :: HD.digs (c / 128) := by rw [HD.digs, dif_pos (by omega)]
        have he : Lib.byteCells (pre ++ [UInt8.ofNat (c % 128 + 128)]) = Lib.byteCells pre ++ [.int .u8 ((c : Int) % 128 + 128)] := by
          rw [Lib.byteCells, List.map_append]
          simp [Lib.byteCells]
          omega
        have hln : (pre ++ [UInt8.ofNat (c % 128 + 128)]).length = pre.length + 1 := by simp
        refine ⟨⟨c / 128, pre ++ [UInt8.ofNat (c % 128 + 128)], a1, c1, by go_num, by omega, by rw [Hpre.out, hd]; simp, by rw [hln], ?_, (Hbl.out.alloc Hbl.out.size _).grown Hgrow1.out (by simp; omega) (fun g hg => (Hown.out.lt g hg).1)⟩, by simp [intOf]; omega⟩
        rw [he, hln]
        exact hown1
theorem specIndexed_any (n : Nat) (w : World) (hn : n ≤ 2 ^ 31) : Calls Tryd.prog 12 #[.int .i64 (n : Nat)] w fun e w' => ∃ a cap, e = .returned (.slice a (HD.intg 128 7 n).length cap) ∧
    w'.ownsRow w.heap.size 5 1 (.slice a (HD.intg 128 7 n).length cap) (HD.intg 128 7 n).length (Lib.byteCells (HD.intg 128 7 n)) ∧ Below w.heap.size w w' := by
  go_enter Tryd.func12, Tryd.ntmps12
  go_wp2_with fail
  refine (integer_any7 n w hn).mono ?_
  rintro e w1 ⟨a, cap, rfl, h1, h2⟩
  go_wp2_with fail
  go_ret
  exact ⟨a, cap, rfl, h1, h2⟩
end Go.Proofs.YtmlnmllnlekcgaaDoor
/-
  The contract of laws.read: the fields of answers up to the first refusal.
-/
namespace Go.Proofs.YtmlnmllnlekcgaaDoor
open Go.ChangeShapes Go.WideShapes Go.ChangeAt Go.RowKit

theorem code_ne (er : HD.Er) : HD.code (some er) ≠ 0 := by cases er <;> simp [HD.code]
theorem infoFld : (Tryd.prog.info? 30).map (fun i => (i.zero, i.size, i.bytes)) = some (some (.agg #[.string ByteArray.empty, .string ByteArray.empty, .bool false]), 3, 40) := by kernel_rfl
theorem drop_rd (A : List HD.Ans) (k : Nat) (h : k < A.length) (acc : List HD.Fld) : HD.rd acc (A.drop k) = match A[k].err with
    | some e => (acc ++ A[k].out, some e)
    | none => HD.rd (acc ++ A[k].out) (A.drop (k + 1)) := by
  rw [List.drop_eq_getElem_cons h, HD.rd]
  all_goals (cases A[k].err <;> rfl)
/-- What read hands back. -/
def ReadEnds (w : World) (r : List HD.Fld × Option HD.Er) (e : Ending) (w' : World) : Prop := ∃ a cap, e = .returned (.tuple #[.slice a r.1.length cap, .int .i64 (HD.code r.2), .int .i64 (HD.idx r.2)]) ∧
  w'.ownsRow w.heap.size 30 3 (.slice a r.1.length cap) r.1.length (flds r.1) ∧ Below w.heap.size w w'

set_option maxHeartbeats 1000000 in
set_option maxRecDepth 100000 in
theorem read_any (w : World) (A : List HD.Ans) (g0 o0 cap : Nat) (vs : List Value) (X : Nat → Prop) (hn : A.length ≤ 2 ^ 22) (hS : (A.map fun a => a.out.length).sum ≤ 2 ^ 40) (hcell : ∀ j v, vs[j]? = some v → w.cell? ⟨g0, o0 + j, none⟩ = some v) (hcap : A.length ≤ cap) (hat : ∀ i a, A[i]? = some a → AnsAt w X vs i a) (hX : ∀ g, X g → g < w.heap.size) :
    Calls Tryd.prog 9 #[.slice (some ⟨g0, o0, none⟩) A.length cap] w (ReadEnds w (HD.rd [] A)) := by
  obtain ⟨n, hnn⟩ : ∃ n, n = A.length := ⟨_, rfl⟩
  rw [← hnn] at hn hcap ⊢
  obtain ⟨i0, hi, hz0, hz1, hzb⟩ := info_parts infoFld
  have Hhi := Lib.hid hi
  have Hz0 := Lib.hid hz0
  have Hz1 := Lib.hid hz1
  have Hzb := Lib.hid hzb
  have Hnn := Lib.hid hnn
  have Hcell := Lib.hid hcell
  have Hat := Lib.hid hat
  have HX := Lib.hid hX
  have HS := Lib.hid hS
  clear hi hz0 hz1 hzb hnn hcell hat hX hS
  go_enter Tryd.func9, Tryd.ntmps9
  go_wp2_with fail
  go_loopw [5, 11] (fun v5 v11 wr => ∃ (k : Nat) (acc : List HD.Fld) (g1 : Nat) (cap : Nat), v11 = .int .i64 (k : Nat) ∧ k ≤ n ∧ acc.length ≤ cap ∧ v5 = .slice (some ⟨g1, 0, none⟩) acc.length cap ∧ wr.ownsRow w.heap.size 30 3 (.slice (some ⟨g1, 0, none⟩) acc.length cap) acc.length (flds acc) ∧ HD.rd [] A = HD.rd acc (A.drop k) ∧
      acc.length + ((A.drop k).map fun a => a.out.length).sum ≤ 2 ^ 40 ∧ Below w.heap.size w wr) (fun _ v11 _ => n - (intOf v11).toNat)
  case atStart =>
    refine ⟨0, [], _, 0, rfl, Nat.zero_le _, Nat.le_refl _, rfl, ⟨rfl, Or.inr ⟨w.heap.size, 0, #[], rfl, Nat.le_refl _, heap_alloc_new w _, Nat.le_refl _, by decide, rfl, rfl⟩⟩, rfl, ?_, (Below.refl _ _).alloc (Nat.le_refl _) _⟩
    simpa using HS.out
  case round =>
    obtain ⟨k, acc, g1, cap1, rfl, hk, hcap1, rfl, hown, hrd, hsum, hbl⟩ := hrel
    have Hown := Lib.hid hown
    have Hrd := Lib.hid hrd
    have Hbl := Lib.hid hbl
    have Hsum := Lib.hid hsum
    clear hown hrd hbl hsum
    rcases Nat.lt_or_ge k n with hlt | hge
    · have hkA : k < A.length := by rw [← Hnn.out]; exact hlt
      have hkN : decide (k < n) = true := by simpa using hlt
      obtain ⟨r, hr⟩ : ∃ r, r = A[k] := ⟨_, rfl⟩
      obtain ⟨fv, lv, nn, h0, h1, h2, h3, h4, h5, hf, hl⟩ := Hat.out k r (by rw [hr]; exact List.getElem?_eq_getElem hkA)
      have hgl : g0 < w.heap.size := World.block_lt_of_cell? w _ (Hcell.out _ _ h0)
      have hcell : ∀ j v, vs[k * 6 + j]? = some v → wr.cell? ⟨g0, o0 + k * 6 + j, none⟩ = some v := fun j v hv => by
        rw [Nat.add_assoc]
        exact (Hbl.out.cell (p := ⟨g0, o0 + (k * 6 + j), none⟩) hgl).trans (Hcell.out _ _ hv)
      obtain ⟨la, ll, lc, rfl⟩ := hl.form
      obtain ⟨fa, fl, fc, rfl⟩ := hf.form
      obtain ⟨rf, hrf⟩ : ∃ x, x = r.flag := ⟨_, rfl⟩
      obtain ⟨rc, hrc⟩ : ∃ x, x = HD.code r.err := ⟨_, rfl⟩
      obtain ⟨ri, hri⟩ : ∃ x, x = HD.idx r.err := ⟨_, rfl⟩
      have q0 := hcell 0 _ h0
      have q1 := hcell 1 _ h1
      have q2 := hcell 2 _ h2
      have q3 := hcell 3 _ h3
      have q4 := hcell 4 _ h4
      have q5 := hcell 5 _ h5
      rw [← hrf] at q3
      rw [← hrc] at q4
      rw [← hri] at q5
      rw [Nat.add_zero] at q0
      have hsz := Hbl.out.size
      have hstep := drop_rd A k hkA acc
      rw [← hr] at hstep
      have hsm : acc.length + (r.out.length + ((A.drop (k + 1)).map fun a => a.out.length).sum) ≤ 2 ^ 40 := by
        have := Hsum.out
        rw [List.drop_eq_getElem_cons hkA, List.map_cons, List.sum_cons, ← hr] at this
        exact this
      have Hrf := Lib.hid hrf
      have Hrc := Lib.hid hrc
      have Hri := Lib.hid hri
      have Hstep := Lib.hid hstep
      have Hsm := Lib.hid hsm
      have Hf := Lib.hid hf
      clear h0 h1 h2 h3 h4 h5 hf hl hcell hr hrf hrc hri hstep hsm
      have hown2 : ∀ o, (wr.alloc o).ownsRow w.heap.size 30 3 (.slice (some ⟨g1, 0, none⟩) acc.length cap1) acc.length (flds acc) := fun o => ownsRow_of_heap Hown.out fun g hg => Below.heap_alloc _ _ _ (Hown.out.lt g hg).2
      have Hown2 := Lib.hid hown2
      clear hown2
      rcases Hf.out with ⟨hnil, hout⟩ | ⟨g, cap2, hsl, hx, hc1, hc2, hcl⟩
      · injection hnil with e1 e2 e3
        subst e1; subst e2; subst e3
        have Hout := Lib.hid hout
        clear hout
        have hfin : flds (acc ++ r.out) = flds acc := by rw [Hout.out, List.append_nil]
        have hfl : (acc ++ r.out).length = acc.length := by rw [Hout.out, List.append_nil]
        have Hfin := Lib.hid hfin
        have Hfl := Lib.hid hfl
        clear hfin hfl
        by_cases hc0 : rc = 0
        · have d5 : decide (rc = 0) = true := decide_eq_true hc0
          go_wp2_with fail
          have hb2 := Hbl.out.alloc hsz (.cells #[.slice none 0 0, .slice la ll lc, .int .i64 nn, .bool rf, .int .i64 0, .int .i64 ri] 50)
          refine ⟨⟨k + 1, acc ++ r.out, g1, cap1, by go_num, hlt, by rw [Hfl.out]; exact hcap1, by rw [Hfl.out], by rw [Hfl.out, Hfin.out]; exact Hown2.out _, ?_, ?_, hb2⟩, by simp [intOf]; omega⟩
          · have he : r.err = none := by
              cases he : r.err with
              | none => rfl
              | some er => exact absurd (by rw [← he, ← Hrc.out]; exact hc0) (code_ne er)
            rw [Hrd.out, Hstep.out, he]
          · have := Hsm.out; rw [List.length_append]; omega
        · have d5 : decide (rc = 0) = false := decide_eq_false hc0
          go_wp2_with fail
          go_quiet (fail)
          go_wp2_with fail
          go_ret3
          have he : HD.rd [] A = (acc ++ r.out, r.err) := by
            rw [Hrd.out, Hstep.out]
            cases he : r.err with
            | none => exact absurd (by rw [Hrc.out, he]; rfl) hc0
            | some er => rfl
          rw [he]
          dsimp only
          refine ⟨some ⟨g1, 0, none⟩, cap1, ?_, ?_, (Hbl.out.alloc hsz _).trans ⟨rfl, rfl, rfl, Nat.le_refl _, fun _ _ => rfl⟩⟩
          · rw [Hfl.out, Hrc.out, Hri.out]; rfl
          · rw [Hfl.out, Hfin.out]; exact Hown2.out _
      · injection hsl with e1 e2 e3
        subst e1; subst e2; subst e3
        have hgX := HX.out g hx
        have hnews : ∀ o j x, (flds r.out)[j]? = some x → (wr.alloc o).cell? ((⟨g, 0, none⟩ : Addr).add j) = some x := fun o j x hx' => by
          rw [Lib.addr_add, Nat.zero_add]
          have h1 := (Hbl.out.cell (p := ⟨g, j, none⟩) hgX).trans (hcl j x hx')
          exact (World.cell?_of_block (a := ⟨g, j, none⟩) (Below.heap_alloc _ _ _ (World.block_lt_of_cell? _ _ h1))).trans h1
        have Hnews := Lib.hid hnews
        have hm1 : acc.length + r.out.length ≤ 2 ^ 40 := by have := Hsm.out; omega
        have hone := flds_one r.out
        have Hone := Lib.hid hone
        clear hcl hnews hone
        go_wp2_with (at_builtin; (refine wpList_append_own_at _ rfl _ _ 22 rfl w.heap.size 30 i0 (.agg #[.string ByteArray.empty, .string ByteArray.empty, .bool false]) 3 40 Tryd.underlying22 Hhi.out Hz0.out Hz1.out Hzb.out rfl (by decide) (.slice (some ⟨g1, 0, none⟩) acc.length cap1) acc.length (flds acc) rfl ?a1 ⟨g, 0, none⟩ r.out.length fc (flds r.out) rfl ?a7 ?a2 ?a3 ?a4 ?a5 ?a6 ?_))
        case a7 => exact flds_len _
        case a1 => exact Hown2.out _
        case a2 => exact Hnews.out _
        case a3 => exact Hone.out
        case a4 => unfold maxLen; omega
        case a5 => omega
        case a6 => simp; omega
        intro v1 w1 hown1 hgrow1 _ hat1
        have Hown1 := Lib.hid hown1
        have Hgrow1 := Lib.hid hgrow1
        have Hat1 := Lib.hid hat1
        clear hown1 hgrow1 hat1
        have hown1 := Hown1.out
        obtain ⟨g2, cap2, rfl⟩ : ∃ g2 cap2, v1 = .slice (some ⟨g2, 0, none⟩) (acc.length + r.out.length) cap2 := by
          rcases hown1.2 with ⟨e, -⟩ | ⟨g2, cap2, cur, e, -⟩
          · rcases Hat1.out with h | h <;> rw [e] at h <;> cases h
          · exact ⟨g2, cap2, e⟩
        have hc2 : acc.length + r.out.length ≤ cap2 := by
          rcases hown1.2 with ⟨e, -⟩ | ⟨g2, cap2, cur, e, -, -, h1, -⟩
          · cases e
          · injection e with e1 e2 e3
            omega
        have hfa : flds (acc ++ r.out) = flds acc ++ flds r.out := flds_append _ _
        have hla : (acc ++ r.out).length = acc.length + r.out.length := List.length_append
        have hb2 : Below w.heap.size w w1 := (Hbl.out.alloc hsz _).grown Hgrow1.out (by simp; omega) (fun g hg => (Hown.out.lt g hg).1)
        have Hown1' := Lib.hid hown1
        have Hfa := Lib.hid hfa
        have Hla := Lib.hid hla
        have Hb2 := Lib.hid hb2
        clear hown1 hfa hla hb2
        have hk4 : ∀ j v, (wr.alloc (.cells #[.slice (some ⟨g, 0, none⟩) r.out.length fc, .slice la ll lc, .int .i64 nn, .bool rf, .int .i64 rc, .int .i64 ri] 50)).cell? ⟨wr.heap.size, j, none⟩ = some v → w1.cell? ⟨wr.heap.size, j, none⟩ = some v := fun j v hv => by
          refine (World.cell?_of_block (a := ⟨wr.heap.size, j, none⟩) (Hgrow1.out.block wr.heap.size (by simp) (fun e => ?_))).trans hv
          have := (Hown.out.lt _ e.symm).2
          omega
        have z4 := hk4 4 _ (by rw [Lib.cell_of_heap (heap_alloc_new wr _)]; rfl)
        have z5 := hk4 5 _ (by rw [Lib.cell_of_heap (heap_alloc_new wr _)]; rfl)
        clear hk4
        by_cases hc0 : rc = 0
        · have d5 : decide (rc = 0) = true := decide_eq_true hc0
          go_wp2_with fail
          refine ⟨⟨k + 1, acc ++ r.out, g2, cap2, by go_num, hlt, by rw [Hla.out]; exact hc2, by rw [Hla.out], by rw [Hla.out, Hfa.out]; exact Hown1'.out, ?_, ?_, Hb2.out⟩, by simp [intOf]; omega⟩
          · have he : r.err = none := by
              cases he : r.err with
              | none => rfl
              | some er => exact absurd (by rw [← he, ← Hrc.out]; exact hc0) (code_ne er)
            rw [Hrd.out, Hstep.out, he]
          · have := Hsm.out; rw [List.length_append]; omega
        · have d5 : decide (rc = 0) = false := decide_eq_false hc0
          go_wp2_with fail
          go_quiet (fail)
          go_wp2_with fail
          go_ret3
          have he : HD.rd [] A = (acc ++ r.out, r.err) := by
            rw [Hrd.out, Hstep.out]
            cases he : r.err with
            | none => exact absurd (by rw [Hrc.out, he]; rfl) hc0
            | some er => rfl
          rw [he]
          dsimp only
          refine ⟨some ⟨g2, 0, none⟩, cap2, ?_, ?_, Hb2.out.trans ⟨rfl, rfl, rfl, Nat.le_refl _, fun _ _ => rfl⟩⟩
          · rw [Hla.out, Hrc.out, Hri.out]; rfl
          · rw [Hla.out, Hfa.out]; exact Hown1'.out
    · obtain rfl : k = n := Nat.le_antisymm hk hge
      have hd : HD.rd [] A = (acc, none) := by rw [Hrd.out, List.drop_of_length_le (Nat.le_of_eq Hnn.out.symm), HD.rd]
      have Hd := Lib.hid hd
      clear hd
      go_wp2_with fail
      go_ret3
      rw [Hd.out]
      exact ⟨some ⟨g1, 0, none⟩, cap1, rfl, Hown.out, Hbl.out⟩
end Go.Proofs.YtmlnmllnlekcgaaDoor
/-
  The contract of laws.equal: two slices of fields hold the same fields.
-/
namespace Go.Proofs.YtmlnmllnlekcgaaDoor
open Go.ChangeShapes Go.WideShapes Go.ChangeAt Go.RowKit

instance : DecidableEq HD.Fld := fun a b => decidable_of_iff (a.name = b.name ∧ a.value = b.value ∧ a.sens = b.sens) ⟨fun ⟨h1, h2, h3⟩ => by cases a; cases b; simp_all, fun h => by rw [h]; exact ⟨rfl, rfl, rfl⟩⟩
/-- A slice whose cells hold fields. -/
def FSl (w : World) (v : Value) (l : List HD.Fld) : Prop := ∃ a c, v = .slice a l.length c ∧ l.length ≤ c ∧ (l ≠ [] → ∃ g o, a = some ⟨g, o, none⟩ ∧ ∀ j u, (flds l)[j]? = some u → w.cell? ⟨g, o + j, none⟩ = some u)
theorem FSl.mono {w w' : World} {v : Value} {l : List HD.Fld} (h : FSl w v l) (hb : Below w.heap.size w w') : FSl w' v l := by
  obtain ⟨a, c, e, hc, h⟩ := h
  refine ⟨a, c, e, hc, fun hne => ?_⟩
  obtain ⟨g, o, e2, hcl⟩ := h hne
  exact ⟨g, o, e2, fun j u hu => (hb.cell (p := ⟨g, o + j, none⟩) (World.block_lt_of_cell? _ _ (hcl j u hu))).trans (hcl j u hu)⟩
theorem FSl.of_own {w : World} {B : Nat} {v : Value} {l : List HD.Fld} {e : TypeId} (h : w.ownsRow B e 3 v l.length (flds l)) : FSl w v l := by
  rcases h.2 with ⟨e, h0⟩ | ⟨g, cap, cur, e, hB, hg, h1, h2, -, -⟩
  · exact ⟨none, 0, by rw [h0]; exact e, by omega, fun hne => absurd (List.eq_nil_of_length_eq_zero h0) hne⟩
  · refine ⟨_, cap, e, h1, fun _ => ⟨g, 0, rfl, fun j u hu => ?_⟩⟩
    have := h.cells (g := g) (by rw [e]; rfl) j u hu
    rwa [Lib.addr_add] at this
theorem FSl.of_frow {w : World} {X : Nat → Prop} {v : Value} {l : List HD.Fld} (h : FRow w X v l) : FSl w v l := by
  rcases h with ⟨rfl, rfl⟩ | ⟨g, cap, e, -, h1, -, hc⟩
  · exact ⟨none, 0, rfl, Nat.le_refl _, fun h => absurd rfl h⟩
  · exact ⟨_, cap, e, h1, fun _ => ⟨g, 0, rfl, fun j u hu => by rw [Nat.zero_add]; exact hc j u hu⟩⟩
theorem flds_at (l : List HD.Fld) (k : Nat) (hk : k < l.length) : (flds l)[k * 3]? = some (.string ⟨l[k].name.toArray⟩) ∧ (flds l)[k * 3 + 1]? = some (.string ⟨l[k].value.toArray⟩) ∧ (flds l)[k * 3 + 2]? = some (.bool l[k].sens) := by
  have key : ∀ (l : List HD.Fld) (k : Nat) (hk : k < l.length) (j : Nat), j < 3 → (flds l)[k * 3 + j]? = (fCells l[k])[j]? := by
    intro l
    induction l with
    | nil => intro k hk; simp at hk
    | cons f l ih =>
      intro k hk j hj
      have hf : flds (f :: l) = fCells f ++ flds l := rfl
      cases k with
      | zero => rw [hf, Nat.zero_mul, Nat.zero_add, List.getElem?_append_left (by simpa [fCells] using hj)]; rfl
      | succ k =>
        rw [hf, show (k + 1) * 3 + j = 3 + (k * 3 + j) by omega, List.getElem?_append_right (by simp [fCells]), show 3 + (k * 3 + j) - (fCells f).length = k * 3 + j by simp [fCells]]
        exact ih k (by simpa using hk) j hj
  exact ⟨key l k hk 0 (by decide), key l k hk 1 (by decide), key l k hk 2 (by decide)⟩

theorem under_fld : Tryd.prog.underlying 30 = some (.struct #[⟨ "Name", 9, 0, false, "", "", 0⟩, ⟨ "Value", 9, 1, false, "", "", 16⟩, ⟨ "Sensitive", 4, 2, false, "", "", 32⟩]) := by kernel_rfl
theorem fields_fld : Tryd.prog.fieldsOf 30 = #[⟨ "Name", 9, 0, false, "", "", 0⟩, ⟨ "Value", 9, 1, false, "", "", 16⟩, ⟨ "Sensitive", 4, 2, false, "", "", 32⟩] := by kernel_rfl
theorem part_bool (cs : Array Value) (i : Nat) (v : Value) (h : cs[i]? = some v) (w : World) : (part 4 cs i).run Tryd.prog w = .ok v w := by
  unfold part isAgg
  simp only [Sem.run_bind, run_underlying Tryd.underlying4, Result.andThen_ok, Sem.run_pure, Bool.false_eq_true, if_false, h]
theorem equal_fld (f q : HD.Fld) (w : World) : (Op.equalIn 10000 30 (.agg #[.string ⟨f.name.toArray⟩, .string ⟨f.value.toArray⟩, .bool f.sens]) (.agg #[.string ⟨q.name.toArray⟩, .string ⟨q.value.toArray⟩, .bool q.sens])).run Tryd.prog w = .ok (decide (f = q)) w := by
  rw [show (10000 : Nat) = 9998 + 1 + 1 from rfl, run_equalIn_struct w (9998 + 1) _ _ _ (by rw [fields_fld]; exact under_fld) (by kernel_rfl), fields_fld]
  obtain ⟨f1, f2, f3⟩ := f
  obtain ⟨q1, q2, q3⟩ := q
  have p1 : ∀ w, (part 9 #[.string ⟨f1.toArray⟩, .string ⟨f2.toArray⟩, .bool f3] 0).run Tryd.prog w = .ok (.string ⟨f1.toArray⟩) w := part_str _ 0 _ rfl
  have p2 : ∀ w, (part 9 #[.string ⟨f1.toArray⟩, .string ⟨f2.toArray⟩, .bool f3] 1).run Tryd.prog w = .ok (.string ⟨f2.toArray⟩) w := part_str _ 1 _ rfl
  have p3 : ∀ w, (part 4 #[.string ⟨f1.toArray⟩, .string ⟨f2.toArray⟩, .bool f3] 2).run Tryd.prog w = .ok (.bool f3) w := part_bool _ 2 _ rfl
  have p4 : ∀ w, (part 9 #[.string ⟨q1.toArray⟩, .string ⟨q2.toArray⟩, .bool q3] 0).run Tryd.prog w = .ok (.string ⟨q1.toArray⟩) w := part_str _ 0 _ rfl
  have p5 : ∀ w, (part 9 #[.string ⟨q1.toArray⟩, .string ⟨q2.toArray⟩, .bool q3] 1).run Tryd.prog w = .ok (.string ⟨q2.toArray⟩) w := part_str _ 1 _ rfl
  have p6 : ∀ w, (part 4 #[.string ⟨q1.toArray⟩, .string ⟨q2.toArray⟩, .bool q3] 2).run Tryd.prog w = .ok (.bool q3) w := part_bool _ 2 _ rfl
  have e3 : ∀ w, (Op.equalIn (9998 + 1) 4 (.bool f3) (.bool q3)).run Tryd.prog w = .ok (f3 == q3) w := fun w => run_equalIn_bool w 9998 _ _ _ Tryd.underlying4
  simp only [Op.eqFields]
  rw [if_pos (by decide), if_pos (by decide), if_pos (by decide)]
  simp only [Sem.run_bind, p1, p2, p3, p4, p5, p6, Result.andThen_ok, equal_str, e3, Sem.run_ite, Sem.run_pure]
  have hd : decide ((⟨f1, f2, f3⟩ : HD.Fld) = ⟨q1, q2, q3⟩) = (decide (f1 = q1) && decide (f2 = q2) && (f3 == q3)) := by
    rw [Bool.eq_iff_iff]; simp [and_assoc]
  rw [hd]
  by_cases h1 : f1 = q1 <;> by_cases h2 : f2 = q2 <;> cases f3 <;> cases q3 <;> simp [h1, h2]

set_option maxHeartbeats 1000000 in
set_option maxRecDepth 100000 in
theorem equal_any (l1 l2 : List HD.Fld) (v1 v2 : Value) (w : World) (h1 : FSl w v1 l1) (h2 : FSl w v2 l2) (hl62 : l1.length ≤ 2 ^ 62) : Calls Tryd.prog 14 #[v1, v2] w fun e w' => e = .returned (.bool (decide (l1 = l2))) ∧ Below w.heap.size w w' := by
  obtain ⟨a1, c1, rfl, hc1, h1⟩ := h1
  obtain ⟨a2, c2, rfl, hc2, h2⟩ := h2
  by_cases hlen : l1.length = l2.length
  · have d0 : decide ((l1.length : Int) = (l2.length : Int)) = true := decide_eq_true (by omega)
    obtain ⟨n, hn⟩ : ∃ n, n = l1.length := ⟨_, rfl⟩
    have hn2 : l2.length = n := by rw [hn]; exact hlen.symm
    rw [hn2] at hc2
    rw [← hn] at hc1 hl62
    rw [← hn, hn2]
    have Hn := Lib.hid hn
    have Hn2 := Lib.hid hn2
    have H1 := Lib.hid h1
    have H2 := Lib.hid h2
    clear h1 h2 hn hn2 hlen d0
    go_enter Tryd.func14, Tryd.ntmps14
    go_wp2_with fail
    go_loopw [5, 13] (fun _ v13 wr => ∃ k : Nat, v13 = .int .i64 (k : Nat) ∧ k ≤ n ∧ l1.take k = l2.take k ∧ wr.heap = w.heap ∧ Below w.heap.size w wr) (fun _ v13 _ => n - (intOf v13).toNat)
    case atStart => exact ⟨0, rfl, Nat.zero_le _, rfl, rfl, Below.refl _ _⟩
    case round =>
      obtain ⟨k, rfl, hk, htk, hheap, hb⟩ := hrel
      have Htk := Lib.hid htk
      have Hheap := Lib.hid hheap
      have Hb := Lib.hid hb
      clear htk hheap hb
      rcases Nat.lt_or_ge k n with hlt | hge
      · have hk1 : k < l1.length := by rw [← Hn.out]; exact hlt
        have hk2 : k < l2.length := by rw [Hn2.out]; exact hlt
        have hkN : decide (k < n) = true := decide_eq_true hlt
        have hkI : (k : Int) < (n : Int) := by omega
        obtain ⟨g1, o1, rfl, hcl1⟩ := H1.out (fun e => by rw [e] at hk1; simp at hk1)
        obtain ⟨g2, o2, rfl, hcl2⟩ := H2.out (fun e => by rw [e] at hk2; simp at hk2)
        obtain ⟨x0, x1, x2⟩ := flds_at l1 k hk1
        obtain ⟨y0, y1, y2⟩ := flds_at l2 k hk2
        obtain ⟨f, hf⟩ : ∃ f, f = l1[k] := ⟨_, rfl⟩
        obtain ⟨q, hq⟩ : ∃ q, q = l2[k] := ⟨_, rfl⟩
        rw [← hf] at x0 x1 x2
        rw [← hq] at y0 y1 y2
        have up : ∀ g o v, w.cell? ⟨g, o, none⟩ = some v → wr.cell? ⟨g, o, none⟩ = some v := fun g o v h => (World.cell?_of_block (a := ⟨g, o, none⟩) (by rw [Hheap.out])).trans h
        have z0 := up _ _ _ (hcl1 _ _ x0)
        have z1 := up _ _ _ (hcl1 _ _ x1)
        have z2 := up _ _ _ (hcl1 _ _ x2)
        have z3 := up _ _ _ (hcl2 _ _ y0)
        have z4 := up _ _ _ (hcl2 _ _ y1)
        have z5 := up _ _ _ (hcl2 _ _ y2)
        rw [← Nat.add_assoc] at z1 z2 z4 z5
        have hfq := equal_fld f q
        have Hf := Lib.hid hf
        have Hq := Lib.hid hq
        clear hcl1 hcl2 x0 x1 x2 y0 y1 y2 up hf hq
        by_cases hfe : f = q
        · have de : decide (f = q) = true := decide_eq_true hfe
          rw [de] at hfq
          go_wp2_with fail
          go_quiet (fail)
          go_wp2_with fail
          refine ⟨⟨k + 1, by go_num, hlt, ?_, Hheap.out, Hb.out.trans ⟨rfl, rfl, rfl, Nat.le_refl _, fun _ _ => rfl⟩⟩, by simp [intOf]; omega⟩
          rw [← List.take_append_getElem hk1, ← List.take_append_getElem hk2, Htk.out, ← Hf.out, ← Hq.out, hfe]
        · have de : decide (f = q) = false := decide_eq_false hfe
          rw [de] at hfq
          go_wp2_with fail
          go_quiet (fail)
          go_wp2_with fail
          go_ret
          have he : decide (l1 = l2) = false := decide_eq_false fun h => hfe (by rw [Hf.out, Hq.out]; simp only [h])
          exact ⟨by rw [he]; rfl, Hb.out.trans ⟨rfl, rfl, rfl, Nat.le_refl _, fun _ _ => rfl⟩⟩
      · obtain rfl : k = n := Nat.le_antisymm hk hge
        have he : decide (l1 = l2) = true := decide_eq_true (by
          have := Htk.out
          rwa [List.take_of_length_le (Nat.le_of_eq Hn.out.symm), List.take_of_length_le (Nat.le_of_eq Hn2.out)] at this)
        go_wp2_with fail
        go_ret
        exact ⟨by rw [he]; rfl, Hb.out⟩
  · have d0 : decide ((l1.length : Int) = (l2.length : Int)) = false := decide_eq_false (by omega)
    have he : decide (l1 = l2) = false := decide_eq_false fun h => hlen (by rw [h])
    rw [he]
    clear h1 h2 he
    go_enter Tryd.func14, Tryd.ntmps14
    go_wp2_with fail
    go_ret
    exact ⟨rfl, Below.refl _ _⟩
end Go.Proofs.YtmlnmllnlekcgaaDoor
/-
  A step of a decoder that tells no bytes: SetAllowedMaxDynamicTableSize, Close, SetEmitEnabled, EmitEnabled.
-/
namespace Go.Proofs.YtmlnmllnlekcgaaDoor
open Go.ChangeShapes Go.WideShapes Go.ChangeAt Go.RowKit

def ans0 : Array Value := #[.slice none 0 0, .slice none 0 0, .int .i64 0, .bool false, .int .i64 0, .int .i64 0]
/-- Memory when a step has been given its value. -/
theorem dec_world (w : World) (cs : Array Value) : Below w.heap.size w (((w.alloc (.cells cs 58)).alloc (.cells ans0 50)).alloc (.cells ans0 50)) ∧
    Row (((w.alloc (.cells cs 58)).alloc (.cells ans0 50)).alloc (.cells ans0 50)) (w.heap.size + 1) 6 (fun i => ans0.getD i undef) ∧
    Row (((w.alloc (.cells cs 58)).alloc (.cells ans0 50)).alloc (.cells ans0 50)) (w.heap.size + 1 + 1) 6 (fun i => ans0.getD i undef) := by
  have hf : ∀ i, i < 6 → ans0[i]? = some (ans0.getD i undef) := fun i hi => by
    rw [Array.getD_eq_getD_getElem?, Array.getElem?_eq_getElem (show i < ans0.size from hi)]; rfl
  refine ⟨(((Below.refl _ w).alloc (Nat.le_refl _) _).alloc (by simp) _).alloc (by simp; omega) _, ?_, ?_⟩
  · have h := Row.new (w.alloc (.cells cs 58)) 50 (by decide) (n := 6) rfl hf
    have hs : (w.alloc (.cells cs 58)).heap.size = w.heap.size + 1 := by simp
    rw [hs] at h
    exact h.alloc _
  · have h := Row.new ((w.alloc (.cells cs 58)).alloc (.cells ans0 50)) 50 (by decide) (n := 6) rfl hf
    have hs : ((w.alloc (.cells cs 58)).alloc (.cells ans0 50)).heap.size = w.heap.size + 1 + 1 := by simp
    rw [hs] at h
    exact h

theorem Row.notU8 {w : World} {b n : Nat} {f : Nat → Value} (h : Row w b n f) : ¬ IsU8 w b := by
  obtain ⟨cs, t, hb, -, -, ht⟩ := h
  rintro ⟨cs', fz, hb'⟩
  rw [hb] at hb'; injection hb' with hb'; injection hb' with _ hb' _; exact ht hb'
/-- Cells of the decoder's struct that tell its mode have changed. -/
theorem Live.mode {B : Nat} {w w' : World} {d : Nat} {M : Emitter} {s s' : HD.St} {l : List HD.Fld} {p : DP} (h : Live B w d M s l p) {f' : Nat → Value} (hr : Row w' d 16 f') (hf : ∀ i, i < 11 → i ≠ 7 → i ≠ 9 → f' i = p.f i) (h7 : f' 7 = .int .u32 (s'.allowed : Nat)) (h9 : f' 9 = .bool s'.on) (h15 : f' 15 = .bool s'.first)
    (he : s'.ents = s.ents) (hm : s'.max = s.max) (ha : s'.allowed ≤ 2 ^ 31) (ho : ∀ k, k ≠ d → p.own d k → w'.heap[k]? = w.heap[k]?) : Live B w' d M s' l { p with f := f' } := by
  have hT := h.mem.tab
  refine ⟨⟨?_, ⟨(hf 5 (by decide) (by decide) (by decide)).trans (by rw [he]; exact h.mem.sized.size), (hf 6 (by decide) (by decide) (by decide)).trans (by rw [hm]; exact h.mem.sized.max)⟩, h7, h9, (hf 10 (by decide) (by decide) (by decide)).trans h.mem.most, h15⟩,
    M.frame h.em fun k hk => ho k (fun e => h.dE (e ▸ hk)) (Or.inr hk), h.emB, (hf 8 (by decide) (by decide) (by decide)).trans h.emv, h.apart, ⟨by rw [he, hm]; exact h.ok.size, by rw [hm]; exact h.ok.max, ha, by rw [he]; exact h.ok.short⟩⟩
  rw [he]
  exact ⟨hr, hT.big, (hf 0 (by decide) (by decide) (by decide)).trans hT.c0, (hf 1 (by decide) (by decide) (by decide)).trans hT.c1, (hf 2 (by decide) (by decide) (by decide)).trans hT.c2, (hf 3 (by decide) (by decide) (by decide)).trans hT.c3, (hf 4 (by decide) (by decide) (by decide)).trans hT.c4,
    ownsRow_of_heap hT.own fun g hg => ho g (fun e => hT.ne (by rw [hg, e])) (Or.inl (Or.inr (Or.inl hg))), hT.ne, hT.mm, hT.lo, hT.map1.of_heap (ho _ (fun e => hT.b_m1 e.symm) (Or.inl (Or.inr (Or.inr (Or.inl rfl))))), hT.map2.of_heap (ho _ (fun e => hT.b_m2 e.symm) (Or.inl (Or.inr (Or.inr (Or.inr rfl)))))⟩

/-- The answer is put together. -/
theorem ans_upd (w1 : World) (n : Nat) (x0 x1 y0 y1 y2 y3 y4 y5 : Value) : Upd (fun i => i = n + 1 ∨ i = n + 1 + 1) w1 ((((((((w1.setCell ⟨n + 1 + 1, 4, none⟩ x0).setCell ⟨n + 1 + 1, 5, none⟩ x1).setCell ⟨n + 1, 0, none⟩ y0).setCell ⟨n + 1, 1, none⟩ y1).setCell ⟨n + 1, 2, none⟩ y2).setCell ⟨n + 1, 3, none⟩ y3).setCell ⟨n + 1, 4, none⟩ y4).setCell ⟨n + 1, 5, none⟩ y5) :=
  ((((((((Upd.refl _ w1).setCell (a := ⟨n + 1 + 1, 4, none⟩) (Or.inl (Or.inr rfl)) x0).setCell (a := ⟨n + 1 + 1, 5, none⟩) (Or.inl (Or.inr rfl)) x1).setCell (a := ⟨n + 1, 0, none⟩) (Or.inl (Or.inl rfl)) y0).setCell (a := ⟨n + 1, 1, none⟩) (Or.inl (Or.inl rfl)) y1).setCell (a := ⟨n + 1, 2, none⟩) (Or.inl (Or.inl rfl)) y2).setCell (a := ⟨n + 1, 3, none⟩) (Or.inl (Or.inl rfl)) y3).setCell (a := ⟨n + 1, 4, none⟩) (Or.inl (Or.inl rfl)) y4).setCell (a := ⟨n + 1, 5, none⟩) (Or.inl (Or.inl rfl)) y5

theorem DEnds.close {B : Nat} {w w1 w2 w3 wf : World} {d : Nat} {M : Emitter} {s : HD.St} {l : List HD.Fld} {p p' : DP} {N : Nat} {r : HD.DS × HD.Ans} {lv : Value} {nn : Int} (hL : Live B w d M s l p)
    (hl : Live B w1 d M r.1.st (l ++ r.2.out) p') (hs : Save B w1 d p'.f r.1.save) (ho : ∀ k, p'.own d k → p.own d k ∨ w.heap.size + 3 ≤ k) (hk : Kept B (p.own d) w w1) (hn : p'.cnt + r.1.st.ents.length + r.1.save.length ≤ N)
    (hf : FRow w1 (fun k => w.heap.size + 3 ≤ k ∧ k < w1.heap.size ∧ ¬ p'.own d k ∧ ¬ IsU8 w1 k) lv r.2.lst) {f1 f2 : Nat → Value} (hr1 : Row w1 (w.heap.size + 1) 6 f1) (hr2 : Row w1 (w.heap.size + 1 + 1) 6 f2)
    (hq1 : Upd (fun i => i = w.heap.size + 1 ∨ i = w.heap.size + 1 + 1) w1 w2) (hb : Below w2.heap.size w2 w3) (hq2 : Upd (fun i => i = w.heap.size + 1 ∨ i = w.heap.size + 1 + 1) w3 wf) :
    DEnds B w d M l p N r (.returned (.agg (ansCells (.slice none 0 0) lv nn r.2))) wf := by
  have hq : Upd (fun i => i = w.heap.size + 1 ∨ i = w.heap.size + 1 + 1) w1 wf := (hq1.step (Upd.of_below hb)).step hq2
  have hown : ∀ k, p'.own d k → wf.heap[k]? = w1.heap[k]? := fun k h => hq.block k (hl.own_lt h) (fun e => by
    rcases ho k h with h' | h'
    · have := hL.own_lt h'; omega
    · omega)
  refine ⟨p', lv, nn, rfl, hf.move (fun k hk => hq.block k hk.2.1 (fun e => by have := hk.1; omega)) (fun k hk => ⟨by omega, Nat.lt_of_lt_of_le hk.2.1 hq.size, hk.2.2.1, fun hu => hk.2.2.2 (hu.of_heap (hq.block k hk.2.1 (fun e => by have := hk.1; omega)).symm)⟩),
    hl.frame hown, hs.kept rfl rfl rfl (fun g hg => hq.block g (hs.u8 hg).lt ?_), fun k h => (ho k h).imp id (by omega), hk.trans (G := fun i => i = w.heap.size + 1 ∨ i = w.heap.size + 1 + 1) (Kept.of_upd hq hl.lo (fun k e => by have := hL.lo; omega)) (fun i hi e => by omega), hn⟩
  rintro (e | e)
  · exact hr1.notU8 (e ▸ hs.u8 hg)
  · exact hr2.notU8 (e ▸ hs.u8 hg)

set_option maxHeartbeats 4000000 in
set_option maxRecDepth 100000 in
theorem decAllow_any (B : Nat) (w : World) (d : Nat) (M : Emitter) (σ : HD.DS) (l : List HD.Fld) (p : DP) (aI aN aL : Addr) (n : Nat)
    (hL : Live B w d M σ.st l p) (hE : EnvO B w aI aN aL) (hV : Save B w d p.f σ.save) (hn : n ≤ 2 ^ 31) :
    Calls Tryd.prog 21 #[.pointer (some ⟨d, 0, none⟩), .agg #[.int .i64 6, .slice none 0 0, .int .i64 (n : Nat), .bool false]] w (DEnds B w d M l p (p.cnt + σ.st.ents.length + σ.save.length) (HD.dstep σ (.allow n))) := by
  have HL := Lib.hid hL
  have HE := Lib.hid hE
  have HV := Lib.hid hV
  clear hL hE hV
  have hnI : IntKind.u32.wrap (n : Int) = (n : Int) := by simp only [IntKind.wrap, IntKind.bits, IntKind.signed]; simp; omega
  have hd : d < w.heap.size := HL.out.lt
  obtain ⟨hb0, hr0, ha0⟩ := dec_world w #[.int .i64 6, .slice none 0 0, .int .i64 (n : Nat), .bool false]
  have HB0 := Lib.hid hb0
  have HR0 := Lib.hid hr0
  have HA0 := Lib.hid ha0
  clear hb0 hr0 ha0
  go_enter Tryd.func21, Tryd.ntmps21
  go_wp2_with fail
  refine (setAllowed_any d p.f (n : Nat) _ (HL.out.row.of_heap (HB0.out.block d hd)) _ HL.out.mem.allowed).mono ?_
  rintro e w1 ⟨rfl, hr1, hu1⟩
  have hkk : ∀ k, k = w.heap.size + 1 ∨ k = w.heap.size + 1 + 1 → w1.heap[k]? = _ := fun k hk => hu1.block k (by have := HA0.out.lt; omega) (by omega)
  have hrr := HR0.out.of_heap (hkk _ (Or.inl rfl))
  have hra := HA0.out.of_heap (hkk _ (Or.inr rfl))
  have Hr1 := Lib.hid hr1
  have Hu1 := Lib.hid hu1
  clear hr1 hu1 hkk
  go_wp2_with fail
  refine (codeOf_nil _).mono ?_
  rintro e w2 ⟨rfl, rfl⟩
  have a0 := hra.cell' (i := 0) (v := .slice none 0 0) (by decide) rfl
  have a1 := hra.cell' (i := 1) (v := .slice none 0 0) (by decide) rfl
  have a2 := hra.cell' (i := 2) (v := .int .i64 0) (by decide) rfl
  have a3 := hra.cell' (i := 3) (v := .bool false) (by decide) rfl
  have a4 := hra.cell' (i := 4) (v := .int .i64 0) (by decide) rfl
  have a5 := hra.cell' (i := 5) (v := .int .i64 0) (by decide) rfl
  have r0 := hrr.cell' (i := 0) (v := .slice none 0 0) (by decide) rfl
  have r1 := hrr.cell' (i := 1) (v := .slice none 0 0) (by decide) rfl
  have r2 := hrr.cell' (i := 2) (v := .int .i64 0) (by decide) rfl
  have r3 := hrr.cell' (i := 3) (v := .bool false) (by decide) rfl
  have r4 := hrr.cell' (i := 4) (v := .int .i64 0) (by decide) rfl
  have r5 := hrr.cell' (i := 5) (v := .int .i64 0) (by decide) rfl
  have fza := fun i => hra.unfrozen i none
  have fzr := fun i => hrr.unfrozen i none
  go_wp2_with fail
  (try simp only [Exit.inBlock, Exit.then])
  refine bodyPost_ret (v := .agg (ansCells (.slice none 0 0) (.slice none 0 0) 0 ⟨[], [], false, none⟩)) ?_ rfl ?_
  · simp only [results, Tryd.results21]
    go_simp
    rfl
  have hb1 : Below B w w1 := by
    have h1 := HB0.out.mono HL.out.lo
    exact h1.trans (Hu1.out.below (Nat.le_trans HL.out.lo HB0.out.size) (fun k e => by rw [e]; exact HL.out.mem.tab.lo.1))
  have hk1 : ∀ k, k ≠ d → k < w.heap.size → w1.heap[k]? = w.heap[k]? := fun k hk hlt => (Hu1.out.block k (Nat.lt_of_lt_of_le hlt HB0.out.size) hk).trans (HB0.out.block k hlt)
  have hl : Live B w1 d M { σ.st with allowed := n } (l ++ []) { p with f := putF p.f 7 (.int .u32 (n : Nat)) } := by
    rw [List.append_nil]
    exact HL.out.mode Hr1.out (fun i hi h7 h9 => by simp only [putF]; rw [if_neg h7]) (by simp [putF]) (by simp [putF, HL.out.mem.on]) (by simp [putF, HL.out.mem.first]) rfl rfl hn (fun k hne ho => hk1 k hne (HL.out.own_lt ho))
  refine DEnds.close (r := HD.dstep σ (.allow n)) (nn := 0) HL.out hl (HV.out.kept rfl rfl rfl (fun g hg => hk1 g (fun e => HV.out.ne (by rw [hg, e])) (HV.out.u8 hg).lt)) (fun k h => Or.inl h)
    ⟨hb1, fun k hlt hn _ => hk1 k (fun e => hn (e ▸ Or.inl (Or.inl rfl))) hlt⟩ (Nat.le_refl _) (FRow.nil _ _) hrr hra (Upd.refl _ _) (Below.refl _ _) (ans_upd w1 w.heap.size _ _ _ _ _ _ _ _)
end Go.Proofs.YtmlnmllnlekcgaaDoor
/-
  Steps of a decoder: Write, Close, SetEmitEnabled, EmitEnabled.
-/
namespace Go.Proofs.YtmlnmllnlekcgaaDoor
open Go.ChangeShapes Go.WideShapes Go.ChangeAt Go.RowKit

set_option maxHeartbeats 4000000 in
set_option maxRecDepth 100000 in
theorem decOn_any (B : Nat) (w : World) (d : Nat) (M : Emitter) (σ : HD.DS) (l : List HD.Fld) (p : DP) (aI aN aL : Addr) (b : Bool)
    (hL : Live B w d M σ.st l p) (hE : EnvO B w aI aN aL) (hV : Save B w d p.f σ.save) :
    Calls Tryd.prog 21 #[.pointer (some ⟨d, 0, none⟩), .agg #[.int .i64 4, .slice none 0 0, .int .i64 0, .bool b]] w (DEnds B w d M l p (p.cnt + σ.st.ents.length + σ.save.length) (HD.dstep σ (.on b))) := by
  have HL := Lib.hid hL
  have HE := Lib.hid hE
  have HV := Lib.hid hV
  clear hL hE hV
  have hd : d < w.heap.size := HL.out.lt
  obtain ⟨hb0, hr0, ha0⟩ := dec_world w #[.int .i64 4, .slice none 0 0, .int .i64 0, .bool b]
  have HB0 := Lib.hid hb0
  have HR0 := Lib.hid hr0
  have HA0 := Lib.hid ha0
  clear hb0 hr0 ha0
  go_enter Tryd.func21, Tryd.ntmps21
  go_wp2_with fail
  refine (setOn_any d p.f b _ (HL.out.row.of_heap (HB0.out.block d hd)) _ HL.out.mem.on).mono ?_
  rintro e w1 ⟨rfl, hr1, hu1⟩
  have hkk : ∀ k, k = w.heap.size + 1 ∨ k = w.heap.size + 1 + 1 → w1.heap[k]? = _ := fun k hk => hu1.block k (by have := HA0.out.lt; omega) (by omega)
  have hrr := HR0.out.of_heap (hkk _ (Or.inl rfl))
  have hra := HA0.out.of_heap (hkk _ (Or.inr rfl))
  have Hr1 := Lib.hid hr1
  have Hu1 := Lib.hid hu1
  clear hr1 hu1 hkk
  go_wp2_with fail
  refine (codeOf_nil _).mono ?_
  rintro e w2 ⟨rfl, rfl⟩
  have a0 := hra.cell' (i := 0) (v := .slice none 0 0) (by decide) rfl
  have a1 := hra.cell' (i := 1) (v := .slice none 0 0) (by decide) rfl
  have a2 := hra.cell' (i := 2) (v := .int .i64 0) (by decide) rfl
  have a3 := hra.cell' (i := 3) (v := .bool false) (by decide) rfl
  have a4 := hra.cell' (i := 4) (v := .int .i64 0) (by decide) rfl
  have a5 := hra.cell' (i := 5) (v := .int .i64 0) (by decide) rfl
  have r0 := hrr.cell' (i := 0) (v := .slice none 0 0) (by decide) rfl
  have r1 := hrr.cell' (i := 1) (v := .slice none 0 0) (by decide) rfl
  have r2 := hrr.cell' (i := 2) (v := .int .i64 0) (by decide) rfl
  have r3 := hrr.cell' (i := 3) (v := .bool false) (by decide) rfl
  have r4 := hrr.cell' (i := 4) (v := .int .i64 0) (by decide) rfl
  have r5 := hrr.cell' (i := 5) (v := .int .i64 0) (by decide) rfl
  have fza := fun i => hra.unfrozen i none
  have fzr := fun i => hrr.unfrozen i none
  go_wp2_with fail
  (try simp only [Exit.inBlock, Exit.then])
  refine bodyPost_ret (v := .agg (ansCells (.slice none 0 0) (.slice none 0 0) 0 ⟨[], [], false, none⟩)) ?_ rfl ?_
  · simp only [results, Tryd.results21]
    go_simp
    rfl
  have hb1 : Below B w w1 := by
    have h1 := HB0.out.mono HL.out.lo
    exact h1.trans (Hu1.out.below (Nat.le_trans HL.out.lo HB0.out.size) (fun k e => by rw [e]; exact HL.out.mem.tab.lo.1))
  have hk1 : ∀ k, k ≠ d → k < w.heap.size → w1.heap[k]? = w.heap[k]? := fun k hk hlt => (Hu1.out.block k (Nat.lt_of_lt_of_le hlt HB0.out.size) hk).trans (HB0.out.block k hlt)
  have hl : Live B w1 d M { σ.st with on := b } (l ++ []) { p with f := putF p.f 9 (.bool b) } := by
    rw [List.append_nil]
    exact HL.out.mode Hr1.out (fun i hi h7 h9 => by simp only [putF]; rw [if_neg h9]) (by simp [putF, HL.out.mem.allowed]) (by simp [putF]) (by simp [putF, HL.out.mem.first]) rfl rfl HL.out.ok.allowed (fun k hne ho => hk1 k hne (HL.out.own_lt ho))
  refine DEnds.close (r := HD.dstep σ (.on b)) (nn := 0) HL.out hl (HV.out.kept rfl rfl rfl (fun g hg => hk1 g (fun e => HV.out.ne (by rw [hg, e])) (HV.out.u8 hg).lt)) (fun k h => Or.inl h)
    ⟨hb1, fun k hlt hn _ => hk1 k (fun e => hn (e ▸ Or.inl (Or.inl rfl))) hlt⟩ (Nat.le_refl _) (FRow.nil _ _) hrr hra (Upd.refl _ _) (Below.refl _ _) (ans_upd w1 w.heap.size _ _ _ _ _ _ _ _)

set_option maxHeartbeats 4000000 in
set_option maxRecDepth 100000 in
theorem decIsOn_any (B : Nat) (w : World) (d : Nat) (M : Emitter) (σ : HD.DS) (l : List HD.Fld) (p : DP) (aI aN aL : Addr)
    (hL : Live B w d M σ.st l p) (hE : EnvO B w aI aN aL) (hV : Save B w d p.f σ.save) :
    Calls Tryd.prog 21 #[.pointer (some ⟨d, 0, none⟩), .agg #[.int .i64 7, .slice none 0 0, .int .i64 0, .bool false]] w (DEnds B w d M l p (p.cnt + σ.st.ents.length + σ.save.length) (HD.dstep σ .isOn)) := by
  have HL := Lib.hid hL
  have HE := Lib.hid hE
  have HV := Lib.hid hV
  clear hL hE hV
  have hd : d < w.heap.size := HL.out.lt
  obtain ⟨hb0, hr0, ha0⟩ := dec_world w #[.int .i64 7, .slice none 0 0, .int .i64 0, .bool false]
  have HB0 := Lib.hid hb0
  have HR0 := Lib.hid hr0
  have HA0 := Lib.hid ha0
  clear hb0 hr0 ha0
  go_enter Tryd.func21, Tryd.ntmps21
  go_wp2_with fail
  refine (emitOn_any d σ.st.on _ ((HL.out.row.of_heap (HB0.out.block d hd)).cell' (by decide) HL.out.mem.on)).mono ?_
  rintro e w1 ⟨rfl, hw1⟩
  have hrr : Row w1 _ _ _ := HR0.out.of_heap (by rw [hw1])
  have hra : Row w1 _ _ _ := HA0.out.of_heap (by rw [hw1])
  have hb1 : Below w.heap.size w w1 := by rw [hw1]; exact HB0.out
  have Hb1 := Lib.hid hb1
  clear hw1 hb1
  have a0 := hra.cell' (i := 0) (v := .slice none 0 0) (by decide) rfl
  have a1 := hra.cell' (i := 1) (v := .slice none 0 0) (by decide) rfl
  have a2 := hra.cell' (i := 2) (v := .int .i64 0) (by decide) rfl
  have a3 := hra.cell' (i := 3) (v := .bool false) (by decide) rfl
  have a4 := hra.cell' (i := 4) (v := .int .i64 0) (by decide) rfl
  have a5 := hra.cell' (i := 5) (v := .int .i64 0) (by decide) rfl
  have r0 := hrr.cell' (i := 0) (v := .slice none 0 0) (by decide) rfl
  have r1 := hrr.cell' (i := 1) (v := .slice none 0 0) (by decide) rfl
  have r2 := hrr.cell' (i := 2) (v := .int .i64 0) (by decide) rfl
  have r3 := hrr.cell' (i := 3) (v := .bool false) (by decide) rfl
  have r4 := hrr.cell' (i := 4) (v := .int .i64 0) (by decide) rfl
  have r5 := hrr.cell' (i := 5) (v := .int .i64 0) (by decide) rfl
  have fza := fun i => hra.unfrozen i none
  have fzr := fun i => hrr.unfrozen i none
  go_wp2_with fail
  refine (codeOf_nil _).mono ?_
  rintro e w2 ⟨rfl, rfl⟩
  go_wp2_with fail
  (try simp only [Exit.inBlock, Exit.then])
  refine bodyPost_ret (v := .agg (ansCells (.slice none 0 0) (.slice none 0 0) 0 ⟨[], [], σ.st.on, none⟩)) ?_ rfl ?_
  · simp only [results, Tryd.results21]
    go_simp
    rfl
  have hl : Live B w1 d M σ.st (l ++ []) p := by
    rw [List.append_nil]
    exact HL.out.below Hb1.out
  refine DEnds.close (r := HD.dstep σ .isOn) (nn := 0) HL.out hl (HV.out.kept rfl rfl rfl (fun g hg => Hb1.out.block g (HV.out.u8 hg).lt)) (fun k h => Or.inl h)
    (Kept.of_below Hb1.out HL.out.lo) (Nat.le_refl _) (FRow.nil _ _) hrr hra ((Upd.refl _ _).setCell (a := ⟨w.heap.size + 1 + 1, 3, none⟩) (Or.inl (Or.inr rfl)) (.bool σ.st.on)) (Below.refl _ _) (ans_upd _ w.heap.size _ _ _ _ _ _ _ _)

set_option maxHeartbeats 4000000 in
set_option maxRecDepth 100000 in
theorem decClose_any (B : Nat) (w : World) (d : Nat) (M : Emitter) (σ : HD.DS) (l : List HD.Fld) (p : DP) (aI aN aL : Addr)
    (hL : Live B w d M σ.st l p) (hE : EnvO B w aI aN aL) (hV : Save B w d p.f σ.save) (hlen : σ.save.length < 2 ^ 46) (hkn : aL ≠ aN ∨ σ.save = []) :
    Calls Tryd.prog 21 #[.pointer (some ⟨d, 0, none⟩), .agg #[.int .i64 1, .slice none 0 0, .int .i64 0, .bool false]] w (DEnds B w d M l p (p.cnt + σ.st.ents.length + σ.save.length) (HD.dstep σ .close)) := by
  have HL := Lib.hid hL
  have HE := Lib.hid hE
  have HV := Lib.hid hV
  clear hL hE hV
  obtain ⟨c12, a12, h12⟩ : ∃ (c : Nat) (a : Option Addr), p.f 12 = .slice a σ.save.length c := by
    obtain ⟨a, c, h⟩ := own_form HV.out.own
    exact ⟨c, a, h⟩
  have H12 := Lib.hid h12
  clear h12
  have hd : d < w.heap.size := HL.out.lt
  obtain ⟨hb0, hr0, ha0⟩ := dec_world w #[.int .i64 1, .slice none 0 0, .int .i64 0, .bool false]
  have HB0 := Lib.hid hb0
  have HR0 := Lib.hid hr0
  have HA0 := Lib.hid ha0
  clear hb0 hr0 ha0
  go_enter Tryd.func21, Tryd.ntmps21
  go_wp2_with fail
  rcases Classical.em (σ.save = []) with hs0 | hs0
  · have h12 : p.f 12 = .slice a12 0 c12 := by rw [H12.out, hs0]; rfl
    refine (closeOk_any d c12 a12 p.f _ (HL.out.row.of_heap (HB0.out.block d hd)) h12 HV.out.off _ HL.out.mem.first).mono ?_
    rintro e w1 ⟨rfl, hr1, hu1⟩
    have hkk : ∀ k, k = w.heap.size + 1 ∨ k = w.heap.size + 1 + 1 → w1.heap[k]? = _ := fun k hk => hu1.block k (by have := HA0.out.lt; omega) (by omega)
    have hrr := HR0.out.of_heap (hkk _ (Or.inl rfl))
    have hra := HA0.out.of_heap (hkk _ (Or.inr rfl))
    have Hr1 := Lib.hid hr1
    have Hu1 := Lib.hid hu1
    clear hr1 hu1 hkk
    go_wp2_with fail
    refine (codeOf_nil _).mono ?_
    rintro e w2 ⟨rfl, rfl⟩
    have a0 := hra.cell' (i := 0) (v := .slice none 0 0) (by decide) rfl
    have a1 := hra.cell' (i := 1) (v := .slice none 0 0) (by decide) rfl
    have a2 := hra.cell' (i := 2) (v := .int .i64 0) (by decide) rfl
    have a3 := hra.cell' (i := 3) (v := .bool false) (by decide) rfl
    have a4 := hra.cell' (i := 4) (v := .int .i64 0) (by decide) rfl
    have a5 := hra.cell' (i := 5) (v := .int .i64 0) (by decide) rfl
    have r0 := hrr.cell' (i := 0) (v := .slice none 0 0) (by decide) rfl
    have r1 := hrr.cell' (i := 1) (v := .slice none 0 0) (by decide) rfl
    have r2 := hrr.cell' (i := 2) (v := .int .i64 0) (by decide) rfl
    have r3 := hrr.cell' (i := 3) (v := .bool false) (by decide) rfl
    have r4 := hrr.cell' (i := 4) (v := .int .i64 0) (by decide) rfl
    have r5 := hrr.cell' (i := 5) (v := .int .i64 0) (by decide) rfl
    have fza := fun i => hra.unfrozen i none
    have fzr := fun i => hrr.unfrozen i none
    go_wp2_with fail
    (try simp only [Exit.inBlock, Exit.then])
    refine bodyPost_ret (v := .agg (ansCells (.slice none 0 0) (.slice none 0 0) 0 ⟨[], [], false, none⟩)) ?_ rfl ?_
    · simp only [results, Tryd.results21]
      go_simp
      rfl
    have hb1 : Below B w w1 := by
      have h1 := HB0.out.mono HL.out.lo
      exact h1.trans (Hu1.out.below (Nat.le_trans HL.out.lo HB0.out.size) (fun k e => by rw [e]; exact HL.out.mem.tab.lo.1))
    have hk1 : ∀ k, k ≠ d → k < w.heap.size → w1.heap[k]? = w.heap[k]? := fun k hk hlt => (Hu1.out.block k (Nat.lt_of_lt_of_le hlt HB0.out.size) hk).trans (HB0.out.block k hlt)
    have hl : Live B w1 d M { σ.st with first := true } (l ++ []) { p with f := putF p.f 15 (.bool true) } := by
      rw [List.append_nil]
      exact HL.out.put Hr1.out (fun i hi => by simp only [putF]; rw [if_neg (by omega)]) (by simp [putF]) (fun k hne ho => hk1 k hne (HL.out.own_lt ho))
    have hst : HD.dstep σ .close = (⟨{ σ.st with first := true }, []⟩, ⟨[], [], false, none⟩) := by simp only [HD.dstep, HD.close, if_pos hs0]
    have hsv : Save B w1 d (putF p.f 15 (.bool true)) [] := by rw [← hs0]; exact HV.out.kept rfl rfl rfl (fun g hg => hk1 g (fun e => HV.out.ne (by rw [hg, e])) (HV.out.u8 hg).lt)
    rw [hst]
    refine DEnds.close (r := (⟨{ σ.st with first := true }, []⟩, ⟨[], [], false, none⟩)) (nn := 0) HL.out hl hsv (fun k h => Or.inl h)
      ⟨hb1, fun k hlt hn _ => hk1 k (fun e => hn (e ▸ Or.inl (Or.inl rfl))) hlt⟩ (by simp) (FRow.nil _ _) hrr hra (Upd.refl _ _) (Below.refl _ _) (ans_upd w1 w.heap.size _ _ _ _ _ _ _ _)
  · obtain ⟨lr, h14⟩ := HV.out.last
    refine (closeBad_any d σ.save.length c12 a12 p.f _ (HL.out.row.of_heap (HB0.out.block d hd)) H12.out HV.out.off lr h14 (by unfold maxLen; omega) (List.length_pos_iff.2 hs0)).mono ?_
    rintro e w1 ⟨⟨x, rfl, hx⟩, hr1, hu1⟩
    have hkk : ∀ k, k = w.heap.size + 1 ∨ k = w.heap.size + 1 + 1 → w1.heap[k]? = _ := fun k hk => hu1.block k (by have := HA0.out.lt; omega) (by omega)
    have hrr0 := HR0.out.of_heap (hkk _ (Or.inl rfl))
    have hra0 := HA0.out.of_heap (hkk _ (Or.inr rfl))
    have hb1 : Below B w w1 := by
      have h1 := HB0.out.mono HL.out.lo
      exact h1.trans (hu1.below (Nat.le_trans HL.out.lo HB0.out.size) (fun k e => by rw [e]; exact HL.out.mem.tab.lo.1))
    have Hb1 := Lib.hid hb1
    have Hx := Lib.hid hx
    have Hr1 := Lib.hid hr1
    have Hu1 := Lib.hid hu1
    have Hrr0 := Lib.hid hrr0
    have Hra0 := Lib.hid hra0
    clear hr1 hu1 hkk hx hb1 hrr0 hra0
    go_wp2_with fail
    refine (codeOf_any B _ (some .coding) _ aI aN aL _ (HE.out.below (by exact Hb1.out)) (Nat.le_trans HL.out.lo HB0.out.size) ⟨x, rfl, Hx.out⟩ (Or.inl (hkn.resolve_right hs0))).mono ?_
    rintro e w2 ⟨rfl, hb2⟩
    have hrr := Hrr0.out.below hb2 Hrr0.out.lt
    have hra := Hra0.out.below hb2 Hra0.out.lt
    have Hb2 := Lib.hid hb2
    clear hb2
    simp only [HD.code, HD.idx]
    have a0 := hra.cell' (i := 0) (v := .slice none 0 0) (by decide) rfl
    have a1 := hra.cell' (i := 1) (v := .slice none 0 0) (by decide) rfl
    have a2 := hra.cell' (i := 2) (v := .int .i64 0) (by decide) rfl
    have a3 := hra.cell' (i := 3) (v := .bool false) (by decide) rfl
    have a4 := hra.cell' (i := 4) (v := .int .i64 0) (by decide) rfl
    have a5 := hra.cell' (i := 5) (v := .int .i64 0) (by decide) rfl
    have r0 := hrr.cell' (i := 0) (v := .slice none 0 0) (by decide) rfl
    have r1 := hrr.cell' (i := 1) (v := .slice none 0 0) (by decide) rfl
    have r2 := hrr.cell' (i := 2) (v := .int .i64 0) (by decide) rfl
    have r3 := hrr.cell' (i := 3) (v := .bool false) (by decide) rfl
    have r4 := hrr.cell' (i := 4) (v := .int .i64 0) (by decide) rfl
    have r5 := hrr.cell' (i := 5) (v := .int .i64 0) (by decide) rfl
    have fza := fun i => hra.unfrozen i none
    have fzr := fun i => hrr.unfrozen i none
    go_wp2_with fail
    (try simp only [Exit.inBlock, Exit.then])
    refine bodyPost_ret (v := .agg (ansCells (.slice none 0 0) (.slice none 0 0) 0 ⟨[], [], false, some .coding⟩)) ?_ rfl ?_
    · simp only [results, Tryd.results21]
      go_simp
      rfl
    have hk1 : ∀ k, k ≠ d → k < w.heap.size → w1.heap[k]? = w.heap[k]? := fun k hk hlt => (Hu1.out.block k (Nat.lt_of_lt_of_le hlt HB0.out.size) hk).trans (HB0.out.block k hlt)
    have hl : Live B w1 d M { σ.st with first := σ.st.first } (l ++ []) { p with f := putF (putF p.f 12 (.slice a12 0 c12)) 14 (.int .i8 0) } := by
      rw [List.append_nil]
      exact HL.out.put Hr1.out (fun i hi => by simp only [putF]; rw [if_neg (by omega), if_neg (by omega)]) (by simp [putF, HL.out.mem.first]) (fun k hne ho => hk1 k hne (HL.out.own_lt ho))
    have hst : HD.dstep σ .close = (⟨σ.st, []⟩, ⟨[], [], false, some .coding⟩) := by simp only [HD.dstep, HD.close, if_neg hs0]
    have hsv : Save B w1 d (putF (putF p.f 12 (.slice a12 0 c12)) 14 (.int .i8 0)) [] := by
      have hown := HV.out.own
      rw [H12.out] at hown
      have hgs : ∃ g, a12 = some ⟨g, 0, none⟩ := by
        rcases hown.2 with ⟨-, h0⟩ | ⟨g, cap, cur, e, -⟩
        · exact absurd (List.eq_nil_of_length_eq_zero h0) hs0
        · injection e with e; exact ⟨g, e⟩
      obtain ⟨g, rfl⟩ := hgs
      have hg : (p.f 12).ownBlock = some g := by rw [H12.out]; rfl
      have hgd : g ≠ d := fun e => HV.out.ne (by rw [hg, e])
      refine ⟨?_, ?_, by simp [putF, HV.out.off], 0, by simp [putF]⟩
      · have : (putF (putF p.f 12 (.slice (some ⟨g, 0, none⟩) 0 c12)) 14 (.int .i8 0)) 12 = .slice (some ⟨g, 0, none⟩) 0 c12 := by simp [putF]
        rw [this]
        exact ownsRow_of_heap (own_reset hown) fun q hq => by injection hq with hq; subst hq; exact hk1 g hgd (HV.out.u8 hg).lt
      · simp [putF, Value.ownBlock, hgd]
    rw [hst]
    refine DEnds.close (r := (⟨σ.st, []⟩, ⟨[], [], false, some .coding⟩)) (nn := 0) HL.out hl hsv (fun k h => Or.inl h)
      ⟨Hb1.out, fun k hlt hn _ => hk1 k (fun e => hn (e ▸ Or.inl (Or.inl rfl))) hlt⟩ (by simp) (FRow.nil _ _) Hrr0.out Hra0.out (Upd.refl _ _) Hb2.out (ans_upd w2 w.heap.size _ _ _ _ _ _ _ _)
end Go.Proofs.YtmlnmllnlekcgaaDoor
/-
  A step of a decoder: Write.
-/
namespace Go.Proofs.YtmlnmllnlekcgaaDoor
open Go.ChangeShapes Go.WideShapes Go.ChangeAt Go.RowKit

/-- What is known behind the call of Write. -/
structure WMid (B : Nat) (w w2 : World) (d : Nat) (M : Emitter) (l : List HD.Fld) (p p' : DP) (aI : Addr) (N : Nat) (r : HD.WR) (x : Value) : Prop where
  err : ErrO (w.heap.size + 3) w2 aI r.err x
  live : Live B w2 d M r.st (l ++ r.out) p'
  save : Save B w2 d p'.f r.save
  own : ∀ k, p'.own d k → p.own d k ∨ w.heap.size + 3 ≤ k
  kept : Kept B (p.own d) w w2
  num : p'.cnt + r.st.ents.length + r.save.length ≤ N
  rr : Row w2 (w.heap.size + 1) 6 (fun i => ans0.getD i undef)
  ra : Row w2 (w.heap.size + 1 + 1) 6 (fun i => ans0.getD i undef)

theorem wMid (B : Nat) (w w1 : World) (d : Nat) (M : Emitter) (σ : HD.DS) (l : List HD.Fld) (p : DP) (aI aN aL : Addr) (G : HD.St → HD.Bs → Prop) (hS : Steps B d M aI aN aL G) (v : HD.Bs) (b1 : Value) (N : Nat)
    (hL : Live B w d M σ.st l p) (hE : EnvO B w aI aN aL) (hV : Save B w d p.f σ.save) (hG : G σ.st (σ.save ++ v)) (hN0 : N = p.cnt + σ.st.ents.length + σ.save.length + v.length) (hN : N < 2 ^ 46) (hT : l.length + (σ.save ++ v).length ≤ 2 ^ 40)
    (hb1 : Below w.heap.size w w1) (hr1 : Row w1 (w.heap.size + 1) 6 (fun i => ans0.getD i undef)) (ha1 : Row w1 (w.heap.size + 1 + 1) 6 (fun i => ans0.getD i undef))
    (hs : (v = [] ∧ b1 = .slice none 0 0) ∨ ∃ g o cap, b1 = .slice (some ⟨g, o, none⟩) v.length cap ∧ Buf w1 g o cap v ∧ IsU8 w1 g) :
    Calls Tryd.prog 28 #[.pointer (some ⟨d, 0, none⟩), b1] w1 fun e w2 => ∃ x p', e = .returned (.tuple #[.int .i64 (v.length : Nat), x]) ∧ WMid B w w2 d M l p p' aI N (HD.write σ.st σ.save v) x := by
  have hsz : w.heap.size + 3 ≤ w1.heap.size := by have := ha1.lt; omega
  have hl1 := hL.below hb1
  have he1 := hE.below (hb1.mono hL.lo)
  have hv1 : Save B w1 d p.f σ.save := hV.kept rfl rfl rfl (fun g hg => hb1.block g (hV.u8 hg).lt)
  obtain ⟨sa, cap, rfl, hsrc⟩ : ∃ sa cap, b1 = .slice sa v.length cap ∧ (v = [] ∨ ∃ g o, sa = some ⟨g, o, none⟩ ∧ Buf w1 g o cap v ∧ IsU8 w1 g) := by
    rcases hs with ⟨hv, rfl⟩ | ⟨g, o, cap, rfl, hb, hu⟩
    · exact ⟨none, 0, by rw [hv]; rfl, Or.inl hv⟩
    · exact ⟨_, cap, rfl, Or.inr ⟨g, o, rfl, hb, hu⟩⟩
  refine (write_any B w1 d M σ.st l p aI aN aL G hS σ.save v sa cap N hl1 he1 hv1 hG hsrc (Nat.le_of_eq hN0.symm) hN hT).mono ?_
  rintro e w2 ⟨⟨x, rfl, hx⟩, p', hl2, hs2, ho2, hk2, hn2⟩
  have hkk : ∀ k, k = w.heap.size + 1 ∨ k = w.heap.size + 1 + 1 → w2.heap[k]? = w1.heap[k]? := fun k hk => hk2.block k (by omega) (fun h => by
    have := hL.own_lt h
    omega) (by
      rcases hk with rfl | rfl
      · exact hr1.notU8
      · exact ha1.notU8)
  refine ⟨x, p', rfl, ?_, hl2, hs2, fun k h => (ho2 k h).imp id (fun h => Nat.le_trans hsz h), (Kept.of_below hb1 hL.lo).step hk2, hn2, hr1.of_heap (hkk _ (Or.inl rfl)), ha1.of_heap (hkk _ (Or.inr rfl))⟩
  cases hr : (HD.write σ.st σ.save v).err with
  | none => rw [hr] at hx; exact hx
  | some er => rw [hr] at hx; exact ErrV.move hx hsz (fun k _ _ => rfl)

theorem dec_first (w : World) (cs : Array Value) (v : Value) (h : cs[0]? = some v) : (((w.alloc (.cells cs 58)).alloc (.cells ans0 50)).alloc (.cells ans0 50)).cell? ⟨w.heap.size, 0, none⟩ = some v := by
  have h0 : (w.alloc (.cells cs 58)).heap[w.heap.size]? = some (.cells cs 58 (0, 0)) := by show (w.heap.push _)[w.heap.size]? = _; simp
  have h1 : (((w.alloc (.cells cs 58)).alloc (.cells ans0 50)).alloc (.cells ans0 50)).heap[w.heap.size]? = some (.cells cs 58 (0, 0)) := by
    rw [Below.heap_alloc _ _ _ (by simp; omega), Below.heap_alloc _ _ _ (by simp)]; exact h0
  simp [World.cell?, h1, h]

set_option maxHeartbeats 1000000 in
set_option maxRecDepth 100000 in
theorem decWrite_any (B : Nat) (w : World) (d : Nat) (M : Emitter) (σ : HD.DS) (l : List HD.Fld) (p : DP) (aI aN aL : Addr) (G : HD.St → HD.Bs → Prop) (hS : Steps B d M aI aN aL G) (v : HD.Bs) (b : Value)
    (hL : Live B w d M σ.st l p) (hE : EnvO B w aI aN aL) (hV : Save B w d p.f σ.save) (hG : G σ.st (σ.save ++ v)) (hb : CmdV w (.write v) b) (hN : p.cnt + σ.st.ents.length + σ.save.length + v.length < 2 ^ 46) (hT : l.length + (σ.save ++ v).length ≤ 2 ^ 40) :
    Calls Tryd.prog 21 #[.pointer (some ⟨d, 0, none⟩), .agg #[.int .i64 0, b, .int .i64 0, .bool false]] w (DEnds B w d M l p (p.cnt + σ.st.ents.length + σ.save.length + v.length) (HD.dstep σ (.write v))) := by
  have HL := Lib.hid hL
  have HE := Lib.hid hE
  have HV := Lib.hid hV
  clear hL hE hV
  have hd : d < w.heap.size := HL.out.lt
  obtain ⟨hb0, hr0, ha0⟩ := dec_world w #[.int .i64 0, b, .int .i64 0, .bool false]
  have HB0 := Lib.hid hb0
  have HR0 := Lib.hid hr0
  have HA0 := Lib.hid ha0
  clear hb0 hr0 ha0
  obtain ⟨hl40, -, hb⟩ := hb
  have hl40 : v.length < 2 ^ 40 := hl40
  rcases hb with ⟨hv, rfl⟩ | ⟨sa, cap, hbe, hb, -⟩
  · have Hv := Lib.hid hv
    clear hv
    go_enter Tryd.func21, Tryd.ntmps21
    go_wp2_with fail
    refine (wMid B w _ d M σ l p aI aN aL G hS v _ _ HL.out HE.out HV.out hG rfl hN hT (by exact HB0.out) (by exact HR0.out) (by exact HA0.out) (Or.inl ⟨Hv.out, rfl⟩)).mono ?_
    rintro e w2 ⟨x, p', rfl, hm⟩
    have hE2' : EnvO B (w2.setCell ⟨w.heap.size + 1 + 1, 2, none⟩ (.int .i64 (v.length : Nat))) aI aN aL := (HE.out.below hm.kept.below).below ⟨rfl, rfl, rfl, by rw [World.size_setCell]; exact Nat.le_refl _, fun k hk => other_set (by have := HL.out.lo; omega)⟩
    have hx2 : ErrO (w.heap.size + 3) (w2.setCell ⟨w.heap.size + 1 + 1, 2, none⟩ (.int .i64 (v.length : Nat))) aI (HD.write σ.st σ.save v).err x := by
      have hx := hm.err
      cases hr : (HD.write σ.st σ.save v).err with
      | none => rw [hr] at hx; exact hx
      | some er => rw [hr] at hx; exact ErrV.move hx (Nat.le_refl _) (fun k hk _ => other_set (by omega))
    have Hra3 := Lib.hid (hm.ra.set 2 (.int .i64 (v.length : Nat)))
    have Hrr3 := Lib.hid (hm.rr.setOther (a := ⟨w.heap.size + 1 + 1, 2, none⟩) (by show w.heap.size + 1 ≠ w.heap.size + 1 + 1; omega) (.int .i64 (v.length : Nat)))
    have za2 := hm.ra.cell' (i := 2) (v := .int .i64 0) (by decide) rfl
    have zfa := fun i => hm.ra.unfrozen i none
    have Hx2 := Lib.hid hx2
    have HE2 := Lib.hid hE2'
    have Hm := Lib.hid hm
    have hBs : B ≤ w.heap.size + 3 := by have := HL.out.lo; omega
    clear hm hE2' hx2
    go_wp2_with fail
    refine (codeOf_any B (w.heap.size + 3) (HD.write σ.st σ.save v).err x aI aN aL _ (by exact HE2.out) hBs (by exact Hx2.out) (hS.write _ _ _ hG)).mono ?_
    rintro e w3 ⟨rfl, hb3⟩
    have hra : Row w3 (w.heap.size + 1 + 1) 6 _ := Hra3.out.below hb3 Hra3.out.lt
    have hrr : Row w3 (w.heap.size + 1) 6 _ := Hrr3.out.below hb3 Hrr3.out.lt
    have Hb3 : Hid (Below (w2.setCell ⟨w.heap.size + 1 + 1, 2, none⟩ (.int .i64 (v.length : Nat))).heap.size (w2.setCell ⟨w.heap.size + 1 + 1, 2, none⟩ (.int .i64 (v.length : Nat))) w3) := Lib.hid hb3
    clear hb3 za2 zfa
    have a0 := hra.cell' (i := 0) (v := .slice none 0 0) (by decide) rfl
    have a1 := hra.cell' (i := 1) (v := .slice none 0 0) (by decide) rfl
    have a2 := hra.cell' (i := 2) (v := .int .i64 (v.length : Nat)) (by decide) rfl
    have a3 := hra.cell' (i := 3) (v := .bool false) (by decide) rfl
    have a4 := hra.cell' (i := 4) (v := .int .i64 0) (by decide) rfl
    have a5 := hra.cell' (i := 5) (v := .int .i64 0) (by decide) rfl
    have r0 := hrr.cell' (i := 0) (v := .slice none 0 0) (by decide) rfl
    have r1 := hrr.cell' (i := 1) (v := .slice none 0 0) (by decide) rfl
    have r2 := hrr.cell' (i := 2) (v := .int .i64 0) (by decide) rfl
    have r3 := hrr.cell' (i := 3) (v := .bool false) (by decide) rfl
    have r4 := hrr.cell' (i := 4) (v := .int .i64 0) (by decide) rfl
    have r5 := hrr.cell' (i := 5) (v := .int .i64 0) (by decide) rfl
    have fza := fun i => hra.unfrozen i none
    have fzr := fun i => hrr.unfrozen i none
    go_wp2_with fail
    (try simp only [Exit.inBlock, Exit.then])
    refine bodyPost_ret (v := .agg (ansCells (.slice none 0 0) (.slice none 0 0) (v.length : Nat) (HD.dstep σ (.write v)).2)) ?_ rfl ?_
    · simp only [results, Tryd.results21]
      go_simp
      rfl
    exact DEnds.close (N := p.cnt + σ.st.ents.length + σ.save.length + v.length) (r := HD.dstep σ (.write v)) (nn := (v.length : Nat)) HL.out Hm.out.live Hm.out.save Hm.out.own Hm.out.kept Hm.out.num (FRow.nil _ _) Hm.out.rr Hm.out.ra ((Upd.refl _ w2).setCell (a := ⟨w.heap.size + 1 + 1, 2, none⟩) (Or.inl (Or.inr rfl)) (.int .i64 (v.length : Nat))) Hb3.out (ans_upd w3 w.heap.size _ _ _ _ _ _ _ _)
  · have hbe : b = .slice (some sa) v.length cap := hbe
    have hb : ∀ q u, (Lib.byteCells v)[q]? = some u → w.cell? (sa.add q) = some u := hb
    subst hbe
    have hcells : ∀ q u, (Lib.byteCells v)[q]? = some u → (((w.alloc (.cells #[.int .i64 0, .slice (some sa) v.length cap, .int .i64 0, .bool false] 58)).alloc (.cells ans0 50)).alloc (.cells ans0 50)).cell? (sa.add q) = some u := by
      intro q u hq
      have h0 := hb q u hq
      exact (HB0.out.cell (World.block_lt_of_cell? w _ h0)).trans h0
    have Hcells := Lib.hid hcells
    clear hcells hb
    have Hs0 := Lib.hid (dec_first w #[.int .i64 0, .slice (some sa) v.length cap, .int .i64 0, .bool false] (.int .i64 0) rfl)
    obtain ⟨i0, hi, hz0, hz1, hz2⟩ := info_parts infoU8
    go_enter Tryd.func21, Tryd.ntmps21
    go_wp2_with (at_builtin; go_must (refine wpList_append_own_at _ rfl _ _ 28 rfl w.heap.size 5 i0 (.int .u8 0) 1 1 Tryd.underlying28 hi hz0 hz1 hz2 rfl (by decide) (.slice none 0 0) 0 [] rfl (World.ownsRow_nil _ w.heap.size _ _) sa v.length cap (Lib.byteCells v) rfl (by rw [byteCells_len, Nat.mul_one]) (by exact Hcells.out) (Lib.byteCells_one _) (by unfold maxLen; omega) (by omega) (by simp; omega) ?_); intro v1 w1 hown1 hgrow1 _ _; rw [Nat.zero_add, List.nil_append] at hown1; have hbw1 := (Below.refl _ _).grown hgrow1 (Nat.le_refl _) (fun k hk => by cases hk); have Hown1 := Lib.hid hown1; have Hbw1 := Lib.hid hbw1; have s0 := (hbw1.cell (p := ⟨w.heap.size, 0, none⟩) (by simp; omega)).trans Hs0.out; clear hown1 hgrow1 hbw1)
    have hb1 : Below w.heap.size w w1 := HB0.out.trans (Hbw1.out.mono HB0.out.size)
    have hs1 : (v = [] ∧ v1 = .slice none 0 0) ∨ ∃ g o cap, v1 = .slice (some ⟨g, o, none⟩) v.length cap ∧ Buf w1 g o cap v ∧ IsU8 w1 g := by
      rcases Hown1.out.2 with ⟨e, h0⟩ | ⟨g1, cap1, cur, e, -⟩
      · exact Or.inl ⟨List.eq_nil_of_length_eq_zero h0, e⟩
      · have ho := Hown1.out
        rw [e] at ho
        exact Or.inr ⟨g1, 0, cap1, e, Buf.of_own ho rfl⟩
    refine (wMid B w w1 d M σ l p aI aN aL G hS v v1 _ HL.out HE.out HV.out hG rfl hN hT hb1 (HR0.out.below Hbw1.out HR0.out.lt) (HA0.out.below Hbw1.out HA0.out.lt) hs1).mono ?_
    clear hs1 hb1
    rintro e w2 ⟨x, p', rfl, hm⟩
    have hE2' : EnvO B (w2.setCell ⟨w.heap.size + 1 + 1, 2, none⟩ (.int .i64 (v.length : Nat))) aI aN aL := (HE.out.below hm.kept.below).below ⟨rfl, rfl, rfl, by rw [World.size_setCell]; exact Nat.le_refl _, fun k hk => other_set (by have := HL.out.lo; omega)⟩
    have hx2 : ErrO (w.heap.size + 3) (w2.setCell ⟨w.heap.size + 1 + 1, 2, none⟩ (.int .i64 (v.length : Nat))) aI (HD.write σ.st σ.save v).err x := by
      have hx := hm.err
      cases hr : (HD.write σ.st σ.save v).err with
      | none => rw [hr] at hx; exact hx
      | some er => rw [hr] at hx; exact ErrV.move hx (Nat.le_refl _) (fun k hk _ => other_set (by omega))
    have Hra3 := Lib.hid (hm.ra.set 2 (.int .i64 (v.length : Nat)))
    have Hrr3 := Lib.hid (hm.rr.setOther (a := ⟨w.heap.size + 1 + 1, 2, none⟩) (by show w.heap.size + 1 ≠ w.heap.size + 1 + 1; omega) (.int .i64 (v.length : Nat)))
    have za2 := hm.ra.cell' (i := 2) (v := .int .i64 0) (by decide) rfl
    have zfa := fun i => hm.ra.unfrozen i none
    have Hx2 := Lib.hid hx2
    have HE2 := Lib.hid hE2'
    have Hm := Lib.hid hm
    have hBs : B ≤ w.heap.size + 3 := by have := HL.out.lo; omega
    clear hm hE2' hx2
    go_wp2_with fail
    refine (codeOf_any B (w.heap.size + 3) (HD.write σ.st σ.save v).err x aI aN aL _ (by exact HE2.out) hBs (by exact Hx2.out) (hS.write _ _ _ hG)).mono ?_
    rintro e w3 ⟨rfl, hb3⟩
    have hra : Row w3 (w.heap.size + 1 + 1) 6 _ := Hra3.out.below hb3 Hra3.out.lt
    have hrr : Row w3 (w.heap.size + 1) 6 _ := Hrr3.out.below hb3 Hrr3.out.lt
    have Hb3 : Hid (Below (w2.setCell ⟨w.heap.size + 1 + 1, 2, none⟩ (.int .i64 (v.length : Nat))).heap.size (w2.setCell ⟨w.heap.size + 1 + 1, 2, none⟩ (.int .i64 (v.length : Nat))) w3) := Lib.hid hb3
    clear hb3 za2 zfa
    have a0 := hra.cell' (i := 0) (v := .slice none 0 0) (by decide) rfl
    have a1 := hra.cell' (i := 1) (v := .slice none 0 0) (by decide) rfl
    have a2 := hra.cell' (i := 2) (v := .int .i64 (v.length : Nat)) (by decide) rfl
    have a3 := hra.cell' (i := 3) (v := .bool false) (by decide) rfl
    have a4 := hra.cell' (i := 4) (v := .int .i64 0) (by decide) rfl
    have a5 := hra.cell' (i := 5) (v := .int .i64 0) (by decide) rfl
    have r0 := hrr.cell' (i := 0) (v := .slice none 0 0) (by decide) rfl
    have r1 := hrr.cell' (i := 1) (v := .slice none 0 0) (by decide) rfl
    have r2 := hrr.cell' (i := 2) (v := .int .i64 0) (by decide) rfl
    have r3 := hrr.cell' (i := 3) (v := .bool false) (by decide) rfl
    have r4 := hrr.cell' (i := 4) (v := .int .i64 0) (by decide) rfl
    have r5 := hrr.cell' (i := 5) (v := .int .i64 0) (by decide) rfl
    have fza := fun i => hra.unfrozen i none
    have fzr := fun i => hrr.unfrozen i none
    go_wp2_with fail
    (try simp only [Exit.inBlock, Exit.then])
    refine bodyPost_ret (v := .agg (ansCells (.slice none 0 0) (.slice none 0 0) (v.length : Nat) (HD.dstep σ (.write v)).2)) ?_ rfl ?_
    · simp only [results, Tryd.results21]
      go_simp
      rfl
    exact DEnds.close (N := p.cnt + σ.st.ents.length + σ.save.length + v.length) (r := HD.dstep σ (.write v)) (nn := (v.length : Nat)) HL.out Hm.out.live Hm.out.save Hm.out.own Hm.out.kept Hm.out.num (FRow.nil _ _) Hm.out.rr Hm.out.ra ((Upd.refl _ w2).setCell (a := ⟨w.heap.size + 1 + 1, 2, none⟩) (Or.inl (Or.inr rfl)) (.int .i64 (v.length : Nat))) Hb3.out (ans_upd w3 w.heap.size _ _ _ _ _ _ _ _)
end Go.Proofs.YtmlnmllnlekcgaaDoor
/-
  Each step of a decoder meets what is asked of it; steps that lie in memory.
-/
namespace Go.Proofs.YtmlnmllnlekcgaaDoor
open Go.ChangeShapes Go.WideShapes Go.ChangeAt Go.RowKit

theorem CmdV.nil {w : World} {c : HD.Cmd} {b : Value} (h : CmdV w c b) (ht : c.takes = false) : b = .slice none 0 0 := by
  rcases h.2.2 with ⟨-, h⟩ | ⟨a, cap, -, -, h⟩
  · exact h
  · rw [ht] at h; cases h
section
variable {B d : Nat} {M : Emitter} {aI aN aL : Addr} {σ : HD.DS}
theorem cmdOk_allow {n : Nat} (hn : n ≤ 2 ^ 31) : CmdOk B d M aI aN aL σ (.allow n) := by
  intro w l p b hL hE hV hb hN hT
  obtain rfl := hb.nil rfl
  exact decAllow_any B w d M σ l p aI aN aL n hL hE hV hn
theorem cmdOk_on {b0 : Bool} : CmdOk B d M aI aN aL σ (.on b0) := by
  intro w l p b hL hE hV hb hN hT
  obtain rfl := hb.nil rfl
  exact decOn_any B w d M σ l p aI aN aL b0 hL hE hV
theorem cmdOk_isOn : CmdOk B d M aI aN aL σ .isOn := by
  intro w l p b hL hE hV hb hN hT
  obtain rfl := hb.nil rfl
  exact decIsOn_any B w d M σ l p aI aN aL hL hE hV
theorem cmdOk_close (hkn : aL ≠ aN ∨ σ.save = []) : CmdOk B d M aI aN aL σ .close := by
  intro w l p b hL hE hV hb hN hT
  obtain rfl := hb.nil rfl
  exact decClose_any B w d M σ l p aI aN aL hL hE hV (by omega) hkn
theorem cmdOk_write {G : HD.St → HD.Bs → Prop} (hS : Steps B d M aI aN aL G) {v : HD.Bs} (hG : G σ.st (σ.save ++ v)) : CmdOk B d M aI aN aL σ (.write v) := by
  intro w l p b hL hE hV hb hN hT
  exact decWrite_any B w d M σ l p aI aN aL G hS v b hL hE hV hG hb hN (by rw [List.length_append]; simpa [HD.Cmd.len, HD.Cmd.bytes, Nat.add_assoc] using hT)
end

def stepCells : List HD.Cmd → List Value → List Value
  | c :: cs, b :: bs => cmdCells c b ++ stepCells cs bs
  | _, _ => []
theorem stepCells_at : ∀ (cs : List HD.Cmd) (bs : List Value) (i : Nat) (h : i < cs.length) (h' : i < bs.length) (j : Nat) (v : Value), (cmdCells cs[i] bs[i])[j]? = some v → (stepCells cs bs)[i * 4 + j]? = some v
  | [], _, _, h, _, _, _, _ => by simp at h
  | _ :: _, [], _, _, h, _, _, _ => by simp at h
  | c :: cs, b :: bs, 0, _, _, j, v, e => by
    have e : (cmdCells c b)[j]? = some v := e
    have hj := (List.getElem?_eq_some_iff.1 e).1
    rw [Nat.zero_mul, Nat.zero_add, stepCells, List.getElem?_append_left hj]
    exact e
  | c :: cs, b :: bs, i + 1, h, h', j, v, e => by
    rw [show (i + 1) * 4 + j = 4 + (i * 4 + j) by omega, stepCells, List.getElem?_append_right (by simp [cmdCells]), show 4 + (i * 4 + j) - (cmdCells c b).length = i * 4 + j by simp [cmdCells]]
    exact stepCells_at cs bs i (by simpa using h) (by simpa using h') j v e
theorem stepCells_len : ∀ (cs : List HD.Cmd) (bs : List Value), bs.length = cs.length → (stepCells cs bs).length = cs.length * 4
  | [], [], _ => rfl
  | [], _ :: _, h => by simp at h
  | _ :: _, [], h => by simp at h
  | c :: cs, b :: bs, h => by
    have := stepCells_len cs bs (by simpa using h)
    simp only [stepCells, List.length_append, this]
    simp [cmdCells]; omega
theorem stepCells_append : ∀ (cs cs' : List HD.Cmd) (bs bs' : List Value), bs.length = cs.length → stepCells (cs ++ cs') (bs ++ bs') = stepCells cs bs ++ stepCells cs' bs'
  | [], _, [], _, _ => rfl
  | [], _, _ :: _, _, h => by simp at h
  | _ :: _, _, [], _, h => by simp at h
  | c :: cs, cs', b :: bs, bs', h => by
    have := stepCells_append cs cs' bs bs' (by simpa using h)
    simp only [List.cons_append, stepCells, this, List.append_assoc]
theorem steps_of_cells {w : World} {g o : Nat} {cs : List HD.Cmd} {bs : List Value} (hl : bs.length = cs.length) (hc : ∀ j v, (stepCells cs bs)[j]? = some v → w.cell? ⟨g, o + j, none⟩ = some v) (hv : ∀ i (h : i < cs.length) (h' : i < bs.length), CmdV w cs[i] bs[i]) : StepsMem w g o cs bs :=
  ⟨hl, fun i h h' j v e => by rw [Nat.add_assoc]; exact hc _ _ (stepCells_at cs bs i h h' j v e), hv⟩
theorem dsteps_of_own {w : World} {B g n cap : Nat} {cs : List HD.Cmd} {bs : List Value} (hl : bs.length = cs.length) (h : w.ownsRow B 58 4 (.slice (some ⟨g, 0, none⟩) n cap) n (stepCells cs bs)) (hv : ∀ i (h : i < cs.length) (h' : i < bs.length), CmdV w cs[i] bs[i]) : StepsMem w g 0 cs bs :=
  steps_of_cells hl (fun j v e => by
    have := h.cells (g := g) rfl j v e
    rwa [Lib.addr_add] at this) hv
theorem CmdV.plain {w : World} {c : HD.Cmd} (hb : c.bytes = []) (hs : sizeOfC c < 2 ^ 32) : CmdV w c (.slice none 0 0) := ⟨by unfold HD.Cmd.len; rw [hb]; decide, hs, Or.inl ⟨hb, rfl⟩⟩
theorem CmdV.write_own {w : World} {B : Nat} {v : HD.Bs} {a : Option Addr} {cap : Nat} (hl : v.length < 2 ^ 40) (h : w.ownsRow B 5 1 (.slice a v.length cap) v.length (Lib.byteCells v)) : CmdV w (.write v) (.slice a v.length cap) := by
  refine ⟨hl, by simp [sizeOfC], ?_⟩
  rcases h.2 with ⟨e, h0⟩ | ⟨g1, cap1, cur, e, -⟩
  · exact Or.inl ⟨List.eq_nil_of_length_eq_zero h0, e⟩
  · injection e with e1 e2 e3
    subst e1; subst e3
    exact Or.inr ⟨⟨g1, 0, none⟩, cap, rfl, h.cells (g := g1) rfl, rfl⟩
theorem CmdV.of_below {w w' : World} {c : HD.Cmd} {b : Value} (h : CmdV w c b) (hb : Below w.heap.size w w') : CmdV w' c b :=
  ⟨h.1, h.2.1, h.2.2.imp id fun ⟨a, cap, e, hb', ht⟩ => ⟨a, cap, e, fun q u hu => (hb.cell (World.block_lt_of_cell? w _ (hb' q u hu))).trans (hb' q u hu), ht⟩⟩
end Go.Proofs.YtmlnmllnlekcgaaDoor
/-
  PLAIN: how many fields are told. No program in sight.
-/
namespace Go.Proofs.YtmlnmllnlekcgaaDoor.HD

theorem W_len : ∀ (n : Nat) (s : St) (out : List Fld) (v : Bs), v.length ≤ n → (W s out v).out.length + (W s out v).save.length ≤ out.length + v.length
  | n, s, out, [], _ => by simp [W_nil]
  | 0, _, _, _ :: _, h => by simp at h
  | n + 1, s, out, b :: v, h => by
    rw [W_cons]
    cases hr : pRepr s (b :: v) with
    | more => simp
    | bad e => simp
    | ok ents max o rest =>
      have hl := pRepr_len hr
      have := W_len n { s with ents := ents, max := max, first := false } (out ++ o.toList) rest (by simp at *; omega)
      have ho : o.toList.length ≤ 1 := by cases o <;> simp
      rw [List.length_append] at this
      dsimp only
      omega
theorem write_len (s : St) (save p : Bs) : (write s save p).out.length + (write s save p).save.length ≤ save.length + p.length := by
  unfold write
  split
  · simp
  · have := W_len _ s [] (save ++ p) (Nat.le_refl _)
    unfold W at this
    simp only [List.length_nil, List.length_append] at this ⊢
    omega
theorem close_len (s : St) (save : Bs) : (close s save).save.length ≤ save.length := by
  unfold close
  split <;> simp
theorem dstep_len (σ : DS) (c : Cmd) : (dstep σ c).2.out.length + (dstep σ c).1.save.length ≤ σ.save.length + c.len := by
  cases c with
  | write v => exact write_len σ.st σ.save v
  | close => have := close_len σ.st σ.save; simp only [dstep, List.length_nil]; omega
  | full v =>
    have h1 := write_len σ.st σ.save v
    have h2 := close_len (write σ.st σ.save v).st (write σ.st σ.save v).save
    simp only [dstep]
    show _ ≤ σ.save.length + v.length
    split
    · simp; omega
    · split
      · simp; omega
      · simp; omega
  | on b => simp [dstep]
  | resize n => simp [dstep]
  | allow n => simp [dstep]
  | isOn => simp [dstep]
theorem drun_sum : ∀ (cs : List Cmd) (σ : DS), ((drun σ cs).map fun a => a.out.length).sum ≤ σ.save.length + (cs.map Cmd.len).sum
  | [], _ => by simp [drun]
  | c :: cs, σ => by
    have h1 := dstep_len σ c
    have h2 := drun_sum cs (dstep σ c).1
    simp only [drun, List.map_cons, List.sum_cons]
    omega
theorem drun_len : ∀ (cs : List Cmd) (σ : DS), (drun σ cs).length = cs.length
  | [], _ => rfl
  | _ :: cs, σ => by rw [drun, List.length_cons, List.length_cons, drun_len cs]
theorem intg_len (above bits n : Nat) (hn : n < 2 ^ 35) : (intg above bits n).length ≤ 7 := by
  unfold intg
  split
  · simp
  · have := digs_len (n - (2 ^ bits - 1)) 5 (by omega)
    simp; omega
end Go.Proofs.YtmlnmllnlekcgaaDoor.HD
