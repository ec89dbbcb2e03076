/-
  Texts of this seat, one behind the other: EStr, HM, Stat, Stat2, MkMap, Stat3, Stat4, ESearch. What each one shows stands at its head. No condition.
-/
import Derived.Test.YtjdmaflkafmmpaaDoorMe3
import Derived.Lib.AppendStr
import Derived.Laws.Tables
import Derived.Great.BuildSlice
import Derived.Carry
import Derived.Orders
import Derived.Deep.Cut
import Derived.BigQuiet
import Derived.Deep.QuietTactic
/-
  Contracts of encodeTypeByte and appendHpackString.
-/
namespace Go.Proofs.YtjdmaflkafmmpaaDoor
open Go.ChangeShapes Go.WideShapes Go.ChangeAt Go.RowKit

theorem append_str_at {P : Program} (w : World) (base : Nat) (t u ty e : TypeId) (i : TypeInfo) (ht : P.underlying t = some (.slice e)) (hu : P.underlying u = some .string) (hi : P.info? e = some i) (hz : i.zero = some (.int .u8 0))
    (hsize : i.size = 1) (hby : i.bytes = 1) (v : Value) (n : Nat) (xs : List Value) (hown : w.ownsRow base e 1 v n xs) (s : ByteArray) (h63 : n + s.size ≤ 2 ^ 46) (hbase : base ≤ w.heap.size) :
    ∃ v' w', (Builtin.append_ #[t, u] ty #[v, .string s]).run P w = .ok v' w' ∧ w'.ownsRow base e 1 v' (n + s.size) (xs ++ Lib.strCells s) ∧ w.grownBy w' v.ownBlock ∧ (v'.ownBlock = v.ownBlock ∨ v'.ownBlock = some w.heap.size) := by
  obtain ⟨v', w', hr, h2, h3, h4⟩ := Lib.run_append_own_string (P := P) w base t u ty e i ht hu hi hz hsize hby v n xs hown s (by unfold maxLen; omega) (by omega) hbase
  refine ⟨v', w', hr, h2, h3, ?_⟩
  rcases hown.2 with ⟨rfl, rfl⟩ | ⟨g, cap, cur, rfl, hbg, hg, hnc, hcm, hcs, htk⟩
  · by_cases hm : s.size = 0
    · left; rw [h4.2 ⟨rfl, hm⟩]
    · right
      have hr2 := run_append_nil_string (P := P) w t u ty e i (.int .u8 0) ht hu hi hz s (by omega) (by omega) (by rw [hby]; omega)
      rw [hr2] at hr
      injection hr with e1 e2
      rw [← e1]; rfl
  · by_cases hroom : n + s.size ≤ cap
    · left
      have hr2 := Lib.run_append_room_string (P := P) w t u ty e i ht hu hi hsize g n cap cur hg s hroom (by omega)
      rw [hr2] at hr
      injection hr with e1 e2
      rw [← e1]; rfl
    · right
      have hr2 := Lib.run_append_grow_string (P := P) w t u ty e i (.int .u8 0) ht hu hi hz ⟨g, 0, none⟩ n cap xs (by rw [hsize]; exact hown.1) (hown.cells (g := g) rfl) s (by omega) (by omega) (by rw [hby]; exact growslice_fits (by omega) (by omega))
      rw [hr2] at hr
      injection hr with e1 e2
      rw [← e1]; rfl
theorem wpList_append_str_at {P : Program} {w : World} {ops : Array Oper} {rest : List Oper} {o : Oper} {a : Act} {Q : Exit → Act → World → Prop} (hgd : o.guard = none) (sl x : Operand) (t u : TypeId)
    (ho : o.op = .call { callee := .builtin .append, args := #[sl, x], argTypes := #[t, u] })
    (base : Nat) (e : TypeId) (i : TypeInfo) (ht : P.underlying t = some (.slice e)) (hu : P.underlying u = some .string) (hi : P.info? e = some i) (hz : i.zero = some (.int .u8 0))
    (hsize : i.size = 1) (hby : i.bytes = 1)
    (v : Value) (n : Nat) (xs : List Value) (hs : a.eval sl = v) (hown : w.ownsRow base e 1 v n xs) (s : ByteArray) (hx : a.eval x = .string s)
    (h63 : n + s.size ≤ 2 ^ 46) (hbase : base ≤ w.heap.size)
    (h : ∀ v' w', w'.ownsRow base e 1 v' (n + s.size) (xs ++ Lib.strCells s) → w.grownBy w' v.ownBlock → (v'.ownBlock = v.ownBlock ∨ v'.ownBlock = some w.heap.size) → wpList P ops Q rest (a.put o.dst v') w') : wpList P ops Q (o :: rest) a w := by
  refine wpList_plain hgd fun K hK => ?_
  obtain ⟨v', w', hr, h2, h3, h4⟩ := append_str_at (P := P) w base t u o.type e i ht hu hi hz hsize hby v n xs hown s h63 hbase
  unfold Oper.wp execOp
  simp only [ho, resolve, invoke, builtin, Sem.run_bind, Sem.run_pure, Result.andThen_ok, List.map_toArray, List.map_cons, List.map_nil, hs, hx, hr]
  exact hK _ _ (h v' w' h2 h3 h4)
theorem strCells_bytes (s : HD.Bs) : Lib.strCells ⟨s.toArray⟩ = Lib.byteCells s := by simp [Lib.strCells, Lib.byteCells]

theorem typeByte_any (idx sens : Bool) (w : World) : Calls Tryd.prog 63 #[.bool idx, .bool sens] w fun e w' => e = .returned (.int .u8 (HD.tbyte idx sens : Nat)) ∧ w = w' := by
  cases sens <;> cases idx
  all_goals
    go_enter Tryd.func63, Tryd.ntmps63
    go_wp2_with fail
    go_ret
    exact ⟨rfl, rfl⟩

/-- As head_set, with more behind it. -/
theorem head_set2 {B n p i : Nat} (above : Nat) {xs : List Value} {ys : HD.Bs} {v v' : Value} {w w1 : World} (hown : w1.ownsRow B 5 1 v' (n + (HD.intg 0 p i).length + ys.length) (xs ++ Lib.byteCells (HD.intg 0 p i) ++ Lib.byteCells ys)) (hg : Grew w w1 v v') (hx : xs.length = n) (hp : above + 2 ^ p ≤ 256) :
    ∃ (g cap x N : Nat), v' = .slice (some ⟨g, 0, none⟩) N cap ∧ n < N ∧ N ≤ cap ∧ cap ≤ maxLen ∧ N = n + (HD.intg above p i ++ ys).length ∧ x < 2 ^ p ∧ w1.cell? ⟨g, n, none⟩ = some (.int .u8 (x : Nat)) ∧ w1.frozen? ⟨g, n, none⟩ = false ∧
      (w1.setCell ⟨g, n, none⟩ (.int .u8 ((above + x : Nat) : Int))).ownsRow B 5 1 (.slice (some ⟨g, 0, none⟩) N cap) N (xs ++ Lib.byteCells (HD.intg above p i ++ ys)) ∧
      Grew w (w1.setCell ⟨g, n, none⟩ (.int .u8 ((above + x : Nat) : Int))) v (.slice (some ⟨g, 0, none⟩) N cap) := by
  obtain ⟨x, r, hxp, e0, e1⟩ := intg_above above p i
  have hpos : 0 < 2 ^ p := Nat.two_pow_pos p
  rw [e0] at hown
  have e2 : xs ++ Lib.byteCells (UInt8.ofNat x :: r) ++ Lib.byteCells ys = xs ++ Lib.byteCells (UInt8.ofNat x :: (r ++ ys)) := by simp [Lib.byteCells]
  rw [e2] at hown
  rcases hown.2 with ⟨-, h0⟩ | ⟨g, cap, cur, e, hB, hh, h1, h2, hcs, htk⟩
  · simp at h0
  · subst e
    have hl : (UInt8.ofNat x :: r).length + ys.length = (UInt8.ofNat x :: (r ++ ys)).length := by simp; omega
    rw [Nat.add_assoc, hl] at hown h1 htk hg ⊢
    have hcur : cur.toList[n]? = some (.int .u8 (x : Nat)) := by
      have h3 : (cur.toList.take ((n + (UInt8.ofNat x :: (r ++ ys)).length) * 1))[n]? = (xs ++ Lib.byteCells (UInt8.ofNat x :: (r ++ ys)))[n]? := by rw [htk]
      rw [List.getElem?_take, if_pos (by simp), List.getElem?_append_right (by omega), hx, Nat.sub_self] at h3
      rw [h3]
      simp only [Lib.byteCells, List.map_cons, List.getElem?_cons_zero, byteCell_ofNat x (by omega)]
    have e3 : HD.intg above p i ++ ys = UInt8.ofNat (above + x) :: (r ++ ys) := by rw [e1]; rfl
    refine ⟨g, cap, x, n + (UInt8.ofNat x :: (r ++ ys)).length, rfl, by simp, h1, h2, by rw [e3]; rfl, by omega, ?_, Lib.frozen_of_heap hh _, ?_, hg.set rfl _⟩
    · rw [Lib.cell_of_heap hh, ← Array.getElem?_toList]; exact hcur
    · rw [e3]
      refine ⟨?_, Or.inr ⟨g, cap, cur.setIfInBounds n (.int .u8 ((above + x : Nat) : Int)), rfl, hB, ?_, h1, h2, by simpa using hcs, ?_⟩⟩
      · have := hown.1
        simpa [Lib.byteCells] using this
      · exact Lib.heap_setCell_same hh _
      · rw [Array.toList_setIfInBounds, List.take_set, htk, List.set_append_right _ _ (by omega), hx, Nat.sub_self]
        simp only [Lib.byteCells, List.map_cons, List.set_cons_zero, byteCell_ofNat (above + x) (by omega)]

set_option maxHeartbeats 1000000 in
set_option maxRecDepth 100000 in
theorem strApp_any (B n : Nat) (v : Value) (xs : List Value) (s : HD.Bs) (w : World) (hown : w.ownsRow B 5 1 v n xs) (hB : B ≤ w.heap.size) (hG : 5 < B ∧ 6 < B) (hs : s.length ≤ 1048576) (hn : n ≤ 2 ^ 39) (ht : LenTab w) (hc : CodeTab w) :
    Calls Tryd.prog 64 #[v, .string ⟨s.toArray⟩] w (App B n xs v w (HD.estr s)) := by
  obtain ⟨sa, sc, rfl⟩ := own_form hown
  have hxl : xs.length = n := by simpa using hown.1
  have Hown := Lib.hid hown
  have Hxl := Lib.hid hxl
  have Ht := Lib.hid ht
  have Hc := Lib.hid hc
  have HG := Lib.hid hG
  have hsz : (⟨s.toArray⟩ : ByteArray).size = s.length := by simp [ByteArray.size]
  obtain ⟨q, hq⟩ : ∃ q, q = HP.hencLen s := ⟨_, rfl⟩
  have hql : (HP.henc s).length = q := by rw [HP.length_henc, hq]
  obtain ⟨T, hT⟩ : ∃ T, T = HD.estr s := ⟨_, rfl⟩
  have hT2 : T = if q < s.length then HD.intg 128 7 q ++ HP.henc s else HD.intg 0 7 s.length ++ s := by rw [hT, HD.estr, hql]
  rw [← hT]
  have Hq := Lib.hid hq
  have Hql := Lib.hid hql
  have HT := Lib.hid hT2
  have hws : IntKind.u64.wrap (s.length : Int) = (s.length : Int) := by simp only [IntKind.wrap, IntKind.bits, IntKind.signed]; simp; omega
  obtain ⟨i0, hi0, hz0, hz1, hz2⟩ := info_parts infoU8
  clear hown hxl ht hc hG hq hql hT hT2
  by_cases hlt : q < s.length
  · have hltI : (q : Int) < (s.length : Int) := by omega
    have hTs : T = HD.intg 128 7 q ++ HP.henc s := by have := HT.out; rwa [if_pos hlt] at this
    have HTs := Lib.hid hTs
    clear hTs HT
    go_enter Tryd.func64, Tryd.ntmps64
    go_wp2_with fail
    refine (encLen_any ⟨s.toArray⟩ _ (by rw [hsz]; exact hs) Ht.out).mono ?_
    rintro e w1 ⟨rfl, rfl⟩
    rw [show HP.hencLen (⟨s.toArray⟩ : ByteArray).data.toList = q from Hq.out.symm]
    go_wp2_with fail
    refine (varApp_any 7 127 (by decide) B n _ xs q _ Hown.out hB (by omega) (by omega)).mono ?_
    rintro e w1 ⟨v1, rfl, hown1, hg1⟩
    have hb1 := hg1.below Hown.out hB
    have hl := HD.intg_le' (above := 0) (bits := 7) (n := q) (by omega)
    have hT1 := Ht.out.below hb1 HG.out.1
    have hC1 := Hc.out.below hb1 HG.out.2
    obtain ⟨a1, c1, hv1⟩ := own_form hown1
    subst hv1
    obtain ⟨N1, hN1⟩ : ∃ N1, N1 = n + (HD.intg 0 7 q).length := ⟨_, rfl⟩
    have hN1b : N1 ≤ 2 ^ 40 := by omega
    rw [← hN1] at hown1 hg1 ⊢
    have HN1 := Lib.hid hN1
    have Hown1 := Lib.hid hown1
    have Hg1 := Lib.hid hg1
    have HT1 := Lib.hid hT1
    have HC1 := Lib.hid hC1
    have hB1 : B ≤ w1.heap.size := Nat.le_trans hB hg1.grown.size
    clear hown1 hg1 hb1 hl hT1 hC1 hN1
    go_wp2_with fail
    refine (app_any B N1 _ _ ⟨s.toArray⟩ _ Hown1.out hB1 HG.out (by rw [hsz]; omega) (by omega) HT1.out HC1.out).mono ?_
    rintro e w2 ⟨v2, rfl, hown2, hg2⟩
    rw [show (⟨s.toArray⟩ : ByteArray).data.toList = s from rfl, HN1.out] at hown2
    obtain ⟨g, cap, x, N, rfl, hN, hNc, hcm, hNe, hx, hcl, hf, hown3, hg3⟩ := head_set2 128 hown2 (Hg1.out.trans hg2) Hxl.out (by decide)
    have HN := Lib.hid hNe
    have Hown3 := Lib.hid hown3
    have Hg3 := Lib.hid hg3
    have hor := or_u8_128 x hx
    have hNI : (n : Int) < (N : Int) := by omega
    clear hNe hown2 hg2 hown3 hg3
    go_wp2_with fail
    go_ret
    exact ⟨_, rfl, by rw [HTs.out, ← HN.out]; exact Hown3.out, Hg3.out⟩
  · have hltI : ¬ (q : Int) < (s.length : Int) := by omega
    have hd0 : decide ((q : Int) < (s.length : Int)) = false := decide_eq_false hltI
    have hTs : T = HD.intg 0 7 s.length ++ s := by have := HT.out; rwa [if_neg hlt] at this
    have HTs := Lib.hid hTs
    clear hTs HT
    go_enter Tryd.func64, Tryd.ntmps64
    go_wp2_with fail
    refine (encLen_any ⟨s.toArray⟩ _ (by rw [hsz]; exact hs) Ht.out).mono ?_
    rintro e w1 ⟨rfl, rfl⟩
    rw [show HP.hencLen (⟨s.toArray⟩ : ByteArray).data.toList = q from Hq.out.symm]
    go_wp2_with fail
    refine (varApp_any 7 127 (by decide) B n _ xs s.length _ Hown.out hB (by omega) (by omega)).mono ?_
    rintro e w1 ⟨v1, rfl, hown1, hg1⟩
    have hl := HD.intg_le' (above := 0) (bits := 7) (n := s.length) (by omega)
    obtain ⟨N1, hN1⟩ : ∃ N1, N1 = n + (HD.intg 0 7 s.length).length := ⟨_, rfl⟩
    have hN1b : N1 ≤ 2 ^ 40 := by omega
    rw [← hN1] at hown1
    have HN1 := Lib.hid hN1
    have Hown1 := Lib.hid hown1
    have Hg1 := Lib.hid hg1
    have hB1 : B ≤ w1.heap.size := Nat.le_trans hB hg1.grown.size
    clear hown1 hg1 hl hN1
    go_wp2_with (at_builtin; go_must (refine wpList_append_str_at rfl _ _ 30 9 rfl B 5 i0 Tryd.underlying30 Tryd.underlying9 hi0 hz0 hz1 hz2 _ _ _ rfl Hown1.out ⟨s.toArray⟩ rfl (by rw [hsz]; omega) hB1 ?_); intro v2 w2 hown2 hgrow2 hat2)
    go_ret
    refine ⟨v2, rfl, ?_, Hg1.out.trans ⟨hgrow2, hat2.imp id fun e => ⟨_, e, Nat.le_refl _⟩⟩⟩
    rw [hsz, strCells_bytes, HN1.out] at hown2
    rw [HTs.out, List.length_append, byteCells_app, ← List.append_assoc, ← Nat.add_assoc]
    exact hown2
end Go.Proofs.YtjdmaflkafmmpaaDoor
/-
  PLAIN: what the two maps of a table tell of its entries, and that it stays so. No program in sight.
-/
namespace Go.Proofs.YtjdmaflkafmmpaaDoor
section
variable {K : Type} [DecidableEq K]
theorem mget_mdel {l : List (K × Nat)} {k k' : K} {v : Nat} (h : mget (mdel l k) k' = some v) : k' ≠ k ∧ mget l k' = some v := by
  unfold mget mdel at h
  rw [List.find?_filter] at h
  by_cases e : k' = k
  · subst e
    rw [List.find?_eq_none.2 (by intro x _; simp)] at h
    cases h
  · refine ⟨e, ?_⟩
    unfold mget
    have h2 : (fun a : K × Nat => decide (decide (a.1 ≠ k) = true ∧ decide (a.1 = k') = true)) = fun a => decide (a.1 = k') := by
      funext a
      by_cases ha : a.1 = k'
      · simp [ha, e]
      · simp [ha]
    rw [h2] at h
    exact h
theorem mget_mput {l : List (K × Nat)} {k k' : K} {v u : Nat} (h : mget (mput l k v) k' = some u) : (k' = k ∧ u = v) ∨ (k' ≠ k ∧ mget l k' = some u) := by
  unfold mput at h
  by_cases hk : k ∈ l.map (·.1)
  · rw [if_pos hk] at h
    unfold mget at h ⊢
    rw [List.find?_map] at h
    have h2 : ((fun p : K × Nat => decide (p.1 = k')) ∘ fun p : K × Nat => if p.1 = k then (p.1, v) else p) = fun p => decide (p.1 = k') := by
      funext p
      simp only [Function.comp]
      split <;> rfl
    rw [h2] at h
    cases hf : l.find? fun p => decide (p.1 = k') with
    | none => rw [hf] at h; cases h
    | some p =>
      rw [hf] at h
      have hp : p.1 = k' := by simpa using List.find?_some hf
      by_cases e : k' = k
      · rw [Option.map_some, Option.map_some, if_pos (hp.trans e)] at h
        exact Or.inl ⟨e, (Option.some.inj h).symm⟩
      · rw [Option.map_some, Option.map_some, if_neg (fun h => e (hp.symm.trans h))] at h
        exact Or.inr ⟨e, h⟩
  · rw [if_neg hk] at h
    unfold mget at h ⊢
    rw [List.find?_append] at h
    cases hf : l.find? fun p => decide (p.1 = k') with
    | some p =>
      rw [hf] at h
      refine Or.inr ⟨fun e => hk ?_, h⟩
      have hp : p.1 = k' := by simpa using List.find?_some hf
      exact List.mem_map.2 ⟨p, List.mem_of_find?_eq_some hf, hp.trans e⟩
    | none =>
      rw [hf] at h
      by_cases e : k = k'
      · subst e
        simp at h
        exact Or.inl ⟨rfl, h.symm⟩
      · simp [e] at h
end

/-- Every number that the maps hold is that of an entry of this name | of this pair. -/
structure MOk (cnt : Nat) (ents : List (HD.Bs × HD.Bs)) (l1 : List (HD.Bs × Nat)) (l2 : List ((HD.Bs × HD.Bs) × Nat)) : Prop where
  one : ∀ k id, mget l1 k = some id → ∃ j v, id = cnt + j + 1 ∧ ents[j]? = some (k, v)
  two : ∀ k id, mget l2 k = some id → ∃ j, id = cnt + j + 1 ∧ ents[j]? = some k
theorem MOk.nil (cnt : Nat) : MOk cnt [] [] [] := ⟨fun k id h => by simp [mget] at h, fun k id h => by simp [mget] at h⟩
theorem MOk.add {cnt : Nat} {ents : List (HD.Bs × HD.Bs)} {l1 : List (HD.Bs × Nat)} {l2 : List ((HD.Bs × HD.Bs) × Nat)} (h : MOk cnt ents l1 l2) (e : HD.Bs × HD.Bs) :
    MOk cnt (ents ++ [e]) (mput l1 e.1 (ents.length + cnt + 1)) (mput l2 e (ents.length + cnt + 1)) := by
  refine ⟨fun k id hk => ?_, fun k id hk => ?_⟩
  · rcases mget_mput hk with ⟨rfl, rfl⟩ | ⟨-, hk⟩
    · exact ⟨ents.length, e.2, by omega, by simp⟩
    · obtain ⟨j, v, h1, h2⟩ := h.one k id hk
      exact ⟨j, v, h1, by rw [List.getElem?_append_left (List.getElem?_eq_some_iff.1 h2).1]; exact h2⟩
  · rcases mget_mput hk with ⟨rfl, rfl⟩ | ⟨-, hk⟩
    · exact ⟨ents.length, by omega, by simp⟩
    · obtain ⟨j, h1, h2⟩ := h.two k id hk
      exact ⟨j, h1, by rw [List.getElem?_append_left (List.getElem?_eq_some_iff.1 h2).1]; exact h2⟩
theorem delS_get : ∀ (es : List (HD.Bs × HD.Bs)) (id : Nat) (l : List (HD.Bs × Nat)) (k : HD.Bs) (u : Nat), mget (delS id es l) k = some u → mget l k = some u ∧ ∀ j v, es[j]? = some (k, v) → u ≠ id + j
  | [], id, l, k, u, h => ⟨h, fun j v hj => by simp at hj⟩
  | e :: es, id, l, k, u, h => by
    rw [delS] at h
    obtain ⟨h1, h2⟩ := delS_get es (id + 1) _ k u h
    have h3 : mget l k = some u ∧ (e.1 = k → u ≠ id) := by
      split at h1
      · obtain ⟨a, b⟩ := mget_mdel h1
        exact ⟨b, fun e2 => absurd e2.symm a⟩
      · rename_i hne
        refine ⟨h1, fun e2 e3 => hne ?_⟩
        rw [e2, h1, e3]; rfl
    refine ⟨h3.1, fun j v hj => ?_⟩
    cases j with
    | zero => simp at hj; subst hj; exact h3.2 rfl
    | succ j => rw [List.getElem?_cons_succ] at hj; have := h2 j v hj; omega
theorem delP_get : ∀ (es : List (HD.Bs × HD.Bs)) (id : Nat) (l : List ((HD.Bs × HD.Bs) × Nat)) (k : HD.Bs × HD.Bs) (u : Nat), mget (delP id es l) k = some u → mget l k = some u ∧ ∀ j, es[j]? = some k → u ≠ id + j
  | [], id, l, k, u, h => ⟨h, fun j hj => by simp at hj⟩
  | e :: es, id, l, k, u, h => by
    rw [delP] at h
    obtain ⟨h1, h2⟩ := delP_get es (id + 1) _ k u h
    have h3 : mget l k = some u ∧ (e = k → u ≠ id) := by
      split at h1
      · obtain ⟨a, b⟩ := mget_mdel h1
        exact ⟨b, fun e2 => absurd e2.symm a⟩
      · rename_i hne
        refine ⟨h1, fun e2 e3 => hne ?_⟩
        rw [e2, h1, e3]; rfl
    refine ⟨h3.1, fun j hj => ?_⟩
    cases j with
    | zero => simp at hj; exact h3.2 hj
    | succ j => rw [List.getElem?_cons_succ] at hj; have := h2 j hj; omega
theorem MOk.drop {cnt : Nat} {ents : List (HD.Bs × HD.Bs)} {l1 : List (HD.Bs × Nat)} {l2 : List ((HD.Bs × HD.Bs) × Nat)} (h : MOk cnt ents l1 l2) (q : Nat) :
    MOk (cnt + q) (ents.drop q) (delS (cnt + 1) (ents.take q) l1) (delP (cnt + 1) (ents.take q) l2) := by
  refine ⟨fun k id hk => ?_, fun k id hk => ?_⟩
  · obtain ⟨h1, h2⟩ := delS_get _ _ _ _ _ hk
    obtain ⟨j, v, e1, e2⟩ := h.one k id h1
    have hj : q ≤ j := by
      rcases Nat.lt_or_ge j q with hlt | hge
      · exact absurd (by omega) (h2 j v (by rw [List.getElem?_take, if_pos hlt]; exact e2))
      · exact hge
    exact ⟨j - q, v, by omega, by rw [List.getElem?_drop, Nat.add_sub_cancel' hj]; exact e2⟩
  · obtain ⟨h1, h2⟩ := delP_get _ _ _ _ _ hk
    obtain ⟨j, e1, e2⟩ := h.two k id h1
    have hj : q ≤ j := by
      rcases Nat.lt_or_ge j q with hlt | hge
      · exact absurd (by omega) (h2 j (by rw [List.getElem?_take, if_pos hlt]; exact e2))
      · exact hge
    exact ⟨j - q, by omega, by rw [List.getElem?_drop, Nat.add_sub_cancel' hj]; exact e2⟩

/-- What a table's search tells: an index, whether the value matches too. -/
def sIdx (st : Bool) (n cnt id : Nat) : Nat := if st then id - cnt else n - (id - cnt - 1)
def sFind (st : Bool) (n cnt : Nat) (l1 : List (HD.Bs × Nat)) (l2 : List ((HD.Bs × HD.Bs) × Nat)) (f : HD.Fld) : Nat × Bool :=
  match (if f.sens then none else mget l2 (f.name, f.value)) with
  | some id => (sIdx st n cnt id, true)
  | none => match mget l1 f.name with
    | some id => (sIdx st n cnt id, false)
    | none => (0, false)
/-- A table's numbers lie within it. -/
def MIn (n cnt : Nat) (l1 : List (HD.Bs × Nat)) (l2 : List ((HD.Bs × HD.Bs) × Nat)) : Prop := (∀ k id, mget l1 k = some id → cnt < id ∧ id ≤ cnt + n) ∧ ∀ k id, mget l2 k = some id → cnt < id ∧ id ≤ cnt + n
theorem MOk.in {cnt : Nat} {ents : List (HD.Bs × HD.Bs)} {l1 : List (HD.Bs × Nat)} {l2 : List ((HD.Bs × HD.Bs) × Nat)} (h : MOk cnt ents l1 l2) : MIn ents.length cnt l1 l2 := by
  refine ⟨fun k id hk => ?_, fun k id hk => ?_⟩
  · obtain ⟨j, v, e1, e2⟩ := h.one k id hk
    have := (List.getElem?_eq_some_iff.1 e2).1
    omega
  · obtain ⟨j, e1, e2⟩ := h.two k id hk
    have := (List.getElem?_eq_some_iff.1 e2).1
    omega

/-- What the encoder finds in both tables. -/
def eFind (a b : Nat × Bool) : Nat × Bool := if a.2 then (a.1, true) else if b.2 ∨ (a.1 = 0 ∧ b.1 ≠ 0) then (b.1 + 61, b.2) else (a.1, false)
theorem sFind_dyn {cnt : Nat} {ents : List (HD.Bs × HD.Bs)} {l1 : List (HD.Bs × Nat)} {l2 : List ((HD.Bs × HD.Bs) × Nat)} (h : MOk cnt ents l1 l2) (f : HD.Fld) :
    (sFind false ents.length cnt l1 l2 f).1 ≤ ents.length ∧ ((sFind false ents.length cnt l1 l2 f).2 = true → f.sens = false ∧ HD.entAt ents ((sFind false ents.length cnt l1 l2 f).1 + 61) = some (f.name, f.value)) ∧
      ((sFind false ents.length cnt l1 l2 f).2 = false → (sFind false ents.length cnt l1 l2 f).1 ≠ 0 → ∃ v, HD.entAt ents ((sFind false ents.length cnt l1 l2 f).1 + 61) = some (f.name, v)) := by
  have key : ∀ j x, ents[j]? = some x → HD.entAt ents (ents.length - j + 61) = some x := fun j x hj => by
    have := (List.getElem?_eq_some_iff.1 hj).1
    unfold HD.entAt
    rw [if_neg (by omega), if_neg (by omega), if_pos (by omega), show ents.length - (ents.length - j + 61 - 61) = j by omega]
    exact hj
  unfold sFind
  split
  · rename_i id hid
    cases hs : f.sens with
    | true => rw [hs] at hid; cases hid
    | false =>
      rw [hs] at hid
      obtain ⟨j, e1, e2⟩ := h.two _ _ hid
      have e3 : sIdx false ents.length cnt id = ents.length - j := by unfold sIdx; rw [if_neg (by decide)]; omega
      refine ⟨by show sIdx false ents.length cnt id ≤ ents.length; rw [e3]; omega, fun _ => ⟨rfl, ?_⟩, (fun h => by cases h)⟩
      show HD.entAt ents (sIdx false ents.length cnt id + 61) = _
      rw [e3]
      exact key j _ e2
  · split
    · rename_i id hid
      obtain ⟨j, v, e1, e2⟩ := h.one _ _ hid
      have e3 : sIdx false ents.length cnt id = ents.length - j := by unfold sIdx; rw [if_neg (by decide)]; omega
      refine ⟨by show sIdx false ents.length cnt id ≤ ents.length; rw [e3]; omega, (fun h => by cases h), fun _ _ => ⟨v, ?_⟩⟩
      show HD.entAt ents (sIdx false ents.length cnt id + 61) = _
      rw [e3]
      exact key j _ e2
    · exact ⟨Nat.zero_le _, (fun h => by cases h), fun _ h => absurd rfl h⟩
/-- The static table's maps. -/
structure SOk (l1 : List (HD.Bs × Nat)) (l2 : List ((HD.Bs × HD.Bs) × Nat)) : Prop where
  one : ∀ p, p ∈ l1 ↔ p ∈ HD.statS
  two : ∀ p, p ∈ l2 ↔ p ∈ HD.statP
theorem statS_at : (HD.statS.all fun p => decide (1 ≤ p.2 ∧ p.2 ≤ 61 ∧ (HD.static[p.2 - 1]?).map (·.1) = some p.1)) = true := by kernel_rfl
theorem mget_mem {K : Type} [DecidableEq K] {l : List (K × Nat)} {k : K} {v : Nat} (h : mget l k = some v) : (k, v) ∈ l := by
  unfold mget at h
  cases hf : l.find? fun p => decide (p.1 = k) with
  | none => rw [hf] at h; cases h
  | some p =>
    rw [hf] at h
    have hp : p.1 = k := by simpa using List.find?_some hf
    have hv : p.2 = v := by simpa using h
    have := List.mem_of_find?_eq_some hf
    rw [← hp, ← hv]; exact this
theorem SOk.at1 {l1 : List (HD.Bs × Nat)} {l2 : List ((HD.Bs × HD.Bs) × Nat)} (h : SOk l1 l2) {k : HD.Bs} {id : Nat} (hk : mget l1 k = some id) : 1 ≤ id ∧ id ≤ 61 ∧ ∃ v, HD.static[id - 1]? = some (k, v) := by
  have hm := (h.one _).1 (mget_mem hk)
  have := of_decide_eq_true (List.all_eq_true.1 statS_at _ hm)
  obtain ⟨a, b, c⟩ := this
  refine ⟨a, b, ?_⟩
  simp only [Option.map_eq_some_iff] at c
  obtain ⟨x, hx, e⟩ := c
  obtain ⟨x1, x2⟩ := x
  exact ⟨x2, by rw [← e]; exact hx⟩
theorem SOk.at2 {l1 : List (HD.Bs × Nat)} {l2 : List ((HD.Bs × HD.Bs) × Nat)} (h : SOk l1 l2) {k : HD.Bs × HD.Bs} {id : Nat} (hk : mget l2 k = some id) : 1 ≤ id ∧ id ≤ 61 ∧ HD.static[id - 1]? = some k := by
  have hm := (h.two _).1 (mget_mem hk)
  unfold HD.statP at hm
  obtain ⟨q, hq, e⟩ := List.mem_map.1 hm
  injection e with e1 e2
  have hq' : HD.static[q.2]? = some q.1 := by
    have := List.mem_zipIdx_iff_getElem?.1 (show (q.1, q.2) ∈ HD.static.zipIdx from hq)
    exact this
  have hl := (List.getElem?_eq_some_iff.1 hq').1
  rw [HD.static_len] at hl
  exact ⟨by omega, by omega, by rw [← e2, Nat.add_sub_cancel, hq', e1]⟩
theorem SOk.in {l1 : List (HD.Bs × Nat)} {l2 : List ((HD.Bs × HD.Bs) × Nat)} (h : SOk l1 l2) : MIn 61 0 l1 l2 :=
  ⟨fun k id hk => by have := h.at1 hk; omega, fun k id hk => by have := h.at2 hk; omega⟩
theorem sFind_stat {l1 : List (HD.Bs × Nat)} {l2 : List ((HD.Bs × HD.Bs) × Nat)} (h : SOk l1 l2) (f : HD.Fld) (ents : List (HD.Bs × HD.Bs)) :
    (sFind true 61 0 l1 l2 f).1 ≤ 61 ∧ ((sFind true 61 0 l1 l2 f).2 = true → f.sens = false ∧ HD.entAt ents (sFind true 61 0 l1 l2 f).1 = some (f.name, f.value)) ∧
      ((sFind true 61 0 l1 l2 f).2 = false → (sFind true 61 0 l1 l2 f).1 ≠ 0 → ∃ v, HD.entAt ents (sFind true 61 0 l1 l2 f).1 = some (f.name, v)) := by
  have key : ∀ id x, 1 ≤ id → id ≤ 61 → HD.static[id - 1]? = some x → HD.entAt ents (sIdx true 61 0 id) = some x := fun id x h1 h2 hj => by
    unfold HD.entAt sIdx
    rw [if_pos rfl, Nat.sub_zero, if_neg (by omega), if_pos h2]
    exact hj
  unfold sFind
  split
  · rename_i id hid
    cases hs : f.sens with
    | true => rw [hs] at hid; cases hid
    | false =>
      rw [hs] at hid
      obtain ⟨a, b, c⟩ := h.at2 hid
      exact ⟨by show sIdx true 61 0 id ≤ 61; unfold sIdx; rw [if_pos rfl]; omega, fun _ => ⟨rfl, key id _ a b c⟩, (fun h => by cases h)⟩
  · split
    · rename_i id hid
      obtain ⟨a, b, v, c⟩ := h.at1 hid
      exact ⟨by show sIdx true 61 0 id ≤ 61; unfold sIdx; rw [if_pos rfl]; omega, (fun h => by cases h), fun _ _ => ⟨v, key id _ a b c⟩⟩
    · exact ⟨Nat.zero_le _, (fun h => by cases h), fun _ h => absurd rfl h⟩
/-- What the encoder finds is so. -/
theorem found {cnt : Nat} {ents : List (HD.Bs × HD.Bs)} {l1 s1 : List (HD.Bs × Nat)} {l2 s2 : List ((HD.Bs × HD.Bs) × Nat)} (h : MOk cnt ents l1 l2) (hs : SOk s1 s2) (hl : ents.length ≤ 2 ^ 40) (f : HD.Fld) :
    HD.Found ents f (eFind (sFind true 61 0 s1 s2 f) (sFind false ents.length cnt l1 l2 f)).2 (eFind (sFind true 61 0 s1 s2 f) (sFind false ents.length cnt l1 l2 f)).1 := by
  obtain ⟨a1, a2, a3⟩ := sFind_stat hs f ents
  obtain ⟨b1, b2, b3⟩ := sFind_dyn h f
  generalize sFind true 61 0 s1 s2 f = a at *
  generalize sFind false ents.length cnt l1 l2 f = b at *
  unfold eFind
  by_cases ha : a.2 = true
  · rw [if_pos ha]
    exact ⟨by show a.1 < _; omega, fun _ => a2 ha, (fun h => by cases h)⟩
  · rw [if_neg ha]
    split
    · rename_i hb
      refine ⟨by show b.1 + 61 < _; omega, fun h => b2 h, fun h hne => ?_⟩
      have h' : b.2 = false := h
      rcases hb with hb | hb
      · rw [h'] at hb; cases hb
      · exact b3 h' hb.2
    · exact ⟨by show a.1 < _; omega, (fun h => by cases h), fun _ hne => a3 (by simpa using ha) hne⟩
end Go.Proofs.YtjdmaflkafmmpaaDoor
/-
  staticTable's one great region draws its order: an invariant that every operation keeps, whichever comes up. Plain part: the operations, what each waits for.
-/
namespace Go.Proofs.YtjdmaflkafmmpaaDoor
open Go.ChangeShapes Go.WideShapes Go.ChangeAt Go.RowKit

section any
variable {P : Program} {ops : Array Oper} {Q : Exit → Act → World → Prop} {md : Region.Mode}
def lis (L : Array Bool) (i : Nat) : Prop := L.getD i false = true
def left (L : Array Bool) (n : Nat) : Nat := ((List.range n).filter fun i => !L.getD i true).length
theorem getD_set (L : Array Bool) (i j : Nat) (d : Bool) : (L.setIfInBounds i true).getD j d = if j = i ∧ i < L.size then true else L.getD j d := by
  simp only [Array.getD_eq_getD_getElem?]
  by_cases h : j = i
  · subst h
    by_cases hl : j < L.size
    · simp [hl]
    · simp [hl]
  · rw [Array.getElem?_setIfInBounds_ne (Ne.symm h)]; simp [h]
theorem left_set {L : Array Bool} {n i : Nat} (hi : i < n) (h : L.getD i true = false) : left (L.setIfInBounds i true) n < left L n := by
  have hl : i < L.size := by
    rcases Nat.lt_or_ge i L.size with h' | h'
    · exact h'
    · simp [Array.getElem?_eq_none h'] at h
  unfold left
  have e : (List.range n).filter (fun j => !(L.setIfInBounds i true).getD j true) = ((List.range n).filter fun j => !L.getD j true).filter fun j => !decide (j = i) := by
    rw [List.filter_filter]
    congr 1
    funext j
    rw [getD_set]
    by_cases hj : j = i <;> simp [hj, hl]
  rw [e, List.length_filter_lt_length_iff_exists]
  exact ⟨i, by simp [hi]; simpa using h, by simp⟩
theorem wpAny_inv (I : Array Bool → Act → World → Prop) (hstep : ∀ L a w i, I L a w → i ∈ Region.ready md ops L → wpOp P ops Q i (fun a' w' => I (L.setIfInBounds i true) a' w') a w)
    (hdone : ∀ L a w, I L a w → Region.ready md ops L = [] → Q .normal a w) : ∀ (fuel : Nat) (L : Array Bool) (a : Act) (w : World), I L a w → left L ops.size ≤ fuel → wpAny P md ops Q fuel L a w
  | 0, L, a, w, hI, hf => by
    have hr : Region.ready md ops L = [] := by
      cases hr : Region.ready md ops L with
      | nil => rfl
      | cons i l =>
        obtain ⟨h1, o, ho, -⟩ := mem_ready.1 (show i ∈ Region.ready md ops L by rw [hr]; simp)
        have hi : i < ops.size := (Array.getElem?_eq_some_iff.1 ho).1
        have := left_set hi h1
        omega
    exact ⟨hr, hdone L a w hI hr⟩
  | n + 1, L, a, w, hI, hf => ⟨hdone L a w hI, fun i hi => wpOp_mono (fun a' w' h' => wpAny_inv I hstep hdone n _ a' w' h' (by
      obtain ⟨h1, o, ho, -⟩ := mem_ready.1 hi
      have := left_set (Array.getElem?_eq_some_iff.1 ho).1 h1
      omega)) (hstep L a w i hI hi)⟩
theorem all_listed {L : Array Bool} (hL : L.size = ops.size) (hac : ∀ (i : Nat) o, ops[i]? = some o → ∀ e ∈ o.after, e.on < i) (hr : Region.ready md ops L = []) : ∀ i, i < ops.size → lis L i := by
  intro i
  induction i using Nat.strongRecOn with
  | ind i ih =>
    intro hi
    rcases Bool.eq_false_or_eq_true (L.getD i true) with h | h
    · unfold lis
      simp only [Array.getD_eq_getD_getElem?, Array.getElem?_eq_getElem (show i < L.size by omega), Option.getD_some] at h ⊢
      exact h
    · exfalso
      have : i ∈ Region.ready md ops L := mem_ready.2 ⟨h, ops[i], Array.getElem?_eq_getElem hi, fun e he _ => ih e.on (hac i _ (Array.getElem?_eq_getElem hi) e he) (Nat.lt_trans (hac i _ (Array.getElem?_eq_getElem hi) e he) hi)⟩
      rw [hr] at this; cases this
theorem wpOp_plain {i : Nat} {o : Oper} {K : Act → World → Prop} {a : Act} {w : World} (ho : ops[i]? = some o) (hg : o.guard = none) (h : o.wp P a w K Q) : wpOp P ops Q i K a w := by
  unfold wpOp
  rw [ho]
  have : Region.wanted o (yielded ops a.tmps) = true := by simp [Region.wanted, hg]
  simp only [this, if_true]
  exact Or.inl h
end any

/-- The operations of staticTable. -/
inductive SK where
  | mk1 | mk2 | mv2 | mv65 | sl | st | bx | fin
  | in1 (k : HD.Bs) (v : Nat)
  | bp (e : HD.Bs × HD.Bs) (t : Nat)
  | in2 (e : HD.Bs × HD.Bs) (v t : Nat)
  | bf (e : HD.Bs × HD.Bs) (t : Nat)
namespace SK
def dst : SK → Option Nat
  | mk1 => some 1
  | mk2 => some 3
  | mv2 => some 2
  | mv65 => some 65
  | sl => some 127
  | st => some 128
  | bx => some 129
  | fin => some 0
  | in1 _ _ => none
  | bp _ t => some t
  | in2 _ _ _ => none
  | bf _ t => some t
def op : SK → Op
  | mk1 => .makeMap 67 none
  | mk2 => .makeMap 68 none
  | mv2 => .move (.tmp 1)
  | mv65 => .move (.tmp 3)
  | sl => .buildSlice 65 61 ((List.range 61).map fun i => (i, .tmp (66 + i))).toArray
  | st => .build 70 #[(0, .const (.bool true)), (2, .const (.int .u64 0)), (3, .tmp 2), (4, .tmp 65), (1, .tmp 127)]
  | bx => .box 70 (.tmp 128)
  | fin => .assign (.tmp 129)
  | in1 k v => .insert 67 (.tmp 1) (.const (encS k)) (.const (.int .u64 (v : Nat)))
  | bp e _ => .build 129 #[(0, .const (.string ⟨e.1.toArray⟩)), (1, .const (.string ⟨e.2.toArray⟩))]
  | in2 _ v t => .insert 68 (.tmp 3) (.tmp t) (.const (.int .u64 (v : Nat)))
  | bf e _ => .build 57 #[(0, .const (.string ⟨e.1.toArray⟩)), (1, .const (.string ⟨e.2.toArray⟩)), (2, .const (.bool false))]
/-- What an operation waits for. -/
def needs (i : Nat) : SK → List Nat
  | in1 _ _ => [0]
  | mv2 => [0]
  | in2 _ _ _ => [54, i - 1]
  | mv65 => [54]
  | sl => (List.range 61).map (178 + ·)
  | st => [53, 177, 239]
  | bx => [240]
  | fin => [241]
  | _ => []
end SK
def sCls : List SK := .mk1 :: (HD.statS.map fun p => .in1 p.1 p.2) ++ [.mv2, .mk2] ++ (HD.static.zipIdx.flatMap fun p => [.bp p.1 (4 + p.2), .in2 p.1 (p.2 + 1) (4 + p.2)]) ++ [.mv65] ++ (HD.static.zipIdx.map fun p => .bf p.1 (66 + p.2)) ++ [.sl, .st, .bx, .fin]
noncomputable def sOps : Array Oper := match Tryd.f60.body with
  | some (.seq _ (.seq (.region _ ops _) _)) => ops
  | _ => #[]
theorem sLen : sOps.size = 243 := by kernel_rfl
theorem cLen : sCls.length = 243 := by kernel_rfl
theorem opsFact : sOps.toList.map (fun o => (o.dst, o.op, o.guard)) = sCls.map (fun k => (k.dst, k.op, none)) := by kernel_rfl
theorem depsFact : ((List.range 243).all fun i => match sCls[i]?, sOps[i]? with
    | some k, some o => (k.needs i).all fun t => o.after.any fun e => e.on == t && Region.binds .any e
    | _, _ => false) = true := by kernel_rfl
theorem acycFact : ((List.range 243).all fun i => match sOps[i]? with
    | some o => o.after.all fun e => decide (e.on < i)
    | _ => true) = true := by kernel_rfl
theorem dstFact : ((sCls.filterMap SK.dst).all fun d => decide (d < 130)) = true := by kernel_rfl
theorem dstNodup : (sCls.zipIdx.all fun p => match p.1.dst with
    | none => true
    | some d => sCls.findIdx? (fun q => q.dst == some d) == some p.2) = true := by kernel_rfl
theorem in2Fact : (sCls.zipIdx.all fun p => match p.1 with
    | .in2 e _ t => (match sCls[p.2 - 1]? with
      | some (.bp e' t') => decide (e = e' ∧ t = t')
      | _ => false)
    | _ => true) = true := by kernel_rfl
end Go.Proofs.YtjdmaflkafmmpaaDoor
/-
  The contract of staticTable: what stands in memory behind it, whichever order its region draws.
-/
namespace Go.Proofs.YtjdmaflkafmmpaaDoor
open Go.ChangeShapes Go.WideShapes Go.ChangeAt Go.RowKit

/-- Where the table's parts lie: its two maps, its entries, its struct. -/
structure Bl where
  b1 : Nat
  b2 : Nat
  g : Nat
  x : Nat
def tabCells (B : Bl) : Array Value := #[.bool true, .slice (some ⟨B.g, 0, none⟩) 61 61, .int .u64 0, .map (some B.b1), .map (some B.b2)]
def sval (B : Bl) : SK → Value
  | .mk1 => .map (some B.b1)
  | .mv2 => .map (some B.b1)
  | .mk2 => .map (some B.b2)
  | .mv65 => .map (some B.b2)
  | .sl => .slice (some ⟨B.g, 0, none⟩) 61 61
  | .st => .agg (tabCells B)
  | .bx => .pointer (some ⟨B.x, 0, none⟩)
  | .fin => .pointer (some ⟨B.x, 0, none⟩)
  | .bp e _ => encP e
  | .bf e _ => .agg (eCells e).toArray
  | .in1 _ _ => undef
  | .in2 _ _ _ => undef
def C1 (L : Array Bool) (l : List (HD.Bs × Nat)) : Prop := (∀ p ∈ l, p ∈ HD.statS) ∧ ∀ (j : Nat) k v, sCls[j]? = some (.in1 k v) → lis L j → (k, v) ∈ l
def C2 (L : Array Bool) (l : List ((HD.Bs × HD.Bs) × Nat)) : Prop := (∀ p ∈ l, p ∈ HD.statP) ∧ ∀ (j : Nat) e v t, sCls[j]? = some (.in2 e v t) → lis L j → (e, v) ∈ l
def gObj : Obj := .cells (entCells HD.static).toArray 57 (0, 0)
def xObj (B : Bl) : Obj := .cells (tabCells B) 70 (0, 0)

structure SI (n0 : Nat) (w0 : World) (B : Bl) (L : Array Bool) (a : Act) (w : World) : Prop where
  defers : a.defers = []
  size : a.tmps.size = 130
  lsize : L.size = 243
  below : Below n0 w0 w
  lo : n0 ≤ w.heap.size
  closed : ∀ (j : Nat) k, sCls[j]? = some k → lis L j → ∀ t ∈ k.needs j, lis L t
  slots : ∀ (j : Nat) k d, sCls[j]? = some k → lis L j → k.dst = some d → a.tmps[d]? = some (sval B k)
  h1 : lis L 0 → n0 ≤ B.b1 ∧ ∃ l, MapMem encS w B.b1 l ∧ C1 L l
  h2 : lis L 54 → n0 ≤ B.b2 ∧ ∃ l, MapMem encP w B.b2 l ∧ C2 L l
  h3 : lis L 239 → n0 ≤ B.g ∧ w.heap[B.g]? = some gObj
  h4 : lis L 241 → n0 ≤ B.x ∧ w.heap[B.x]? = some (xObj B)
  h12 : lis L 0 → lis L 54 → B.b1 ≠ B.b2

theorem lis_set {L : Array Bool} {i : Nat} (hi : i < L.size) (j : Nat) : lis (L.setIfInBounds i true) j ↔ j = i ∨ lis L j := by
  unfold lis
  rw [getD_set]
  by_cases h : j = i <;> simp [h, hi]
theorem dst_idx {i : Nat} {k : SK} {d : Nat} (h : sCls[i]? = some k) (hd : k.dst = some d) : sCls.findIdx? (fun q => q.dst == some d) = some i := by
  have := List.all_eq_true.1 dstNodup (k, i) (by rw [List.mem_zipIdx_iff_getElem?]; exact h)
  simpa [hd] using this
theorem idx_unique {i j : Nat} {k q : SK} {d : Nat} (h : sCls[i]? = some k) (h' : sCls[j]? = some q) (hd : k.dst = some d) (hd' : q.dst = some d) : i = j := by
  have e := (dst_idx h hd).symm.trans (dst_idx h' hd')
  simpa using e
theorem dst_lt {i : Nat} {k : SK} {d : Nat} (h : sCls[i]? = some k) (hd : k.dst = some d) : d < 130 := by
  have := List.all_eq_true.1 dstFact d (List.mem_filterMap.2 ⟨k, List.mem_of_getElem? h, hd⟩)
  simpa using this
theorem c0 : sCls[0]? = some .mk1 := by kernel_rfl
theorem c53 : sCls[53]? = some .mv2 := by kernel_rfl
theorem c54 : sCls[54]? = some .mk2 := by kernel_rfl
theorem c177 : sCls[177]? = some .mv65 := by kernel_rfl
theorem c239 : sCls[239]? = some .sl := by kernel_rfl
theorem c240 : sCls[240]? = some .st := by kernel_rfl
theorem c241 : sCls[241]? = some .bx := by kernel_rfl
theorem c242 : sCls[242]? = some .fin := by kernel_rfl

theorem SI.next {n0 : Nat} {w0 : World} {B : Bl} {L : Array Bool} {a : Act} {w : World} (h : SI n0 w0 B L a w) {i : Nat} {k : SK} (hi : sCls[i]? = some k) (hn : ∀ t ∈ k.needs i, lis L t)
    (B' : Bl) (v : Value) (w' : World) (hv : ∀ d, k.dst = some d → v = sval B' k) (hB : ∀ (j : Nat) q, sCls[j]? = some q → lis L j → sval B' q = sval B q) (hb : Below n0 w0 w') (hlo : n0 ≤ w'.heap.size)
    (h1 : 0 = i ∨ lis L 0 → n0 ≤ B'.b1 ∧ ∃ l, MapMem encS w' B'.b1 l ∧ C1 (L.setIfInBounds i true) l) (h2 : 54 = i ∨ lis L 54 → n0 ≤ B'.b2 ∧ ∃ l, MapMem encP w' B'.b2 l ∧ C2 (L.setIfInBounds i true) l)
    (h3 : 239 = i ∨ lis L 239 → n0 ≤ B'.g ∧ w'.heap[B'.g]? = some gObj) (h4 : 241 = i ∨ lis L 241 → n0 ≤ B'.x ∧ w'.heap[B'.x]? = some (xObj B')) (h12 : 0 = i ∨ lis L 0 → 54 = i ∨ lis L 54 → B'.b1 ≠ B'.b2) :
    SI n0 w0 B' (L.setIfInBounds i true) (a.put k.dst v) w' := by
  have hil : i < L.size := by
    rw [h.lsize, ← cLen]; exact (List.getElem?_eq_some_iff.1 hi).1
  have hl := lis_set hil
  refine ⟨?_, ?_, by simp [h.lsize], hb, hlo, ?_, ?_, fun q => h1 ((hl 0).1 q), fun q => h2 ((hl 54).1 q), fun q => h3 ((hl 239).1 q), fun q => h4 ((hl 241).1 q), fun q r => h12 ((hl 0).1 q) ((hl 54).1 r)⟩
  · cases hd : k.dst <;> exact h.defers
  · cases hd : k.dst <;> simp [Act.put, h.size]
  · intro j q hq hj t ht
    rcases (hl j).1 hj with rfl | hj
    · rw [hi] at hq
      obtain rfl := Option.some.inj hq
      exact (hl t).2 (Or.inr (hn t ht))
    · exact (hl t).2 (Or.inr (h.closed j q hq hj t ht))
  · intro j q d hq hj hd
    by_cases hji : j = i
    · subst hji
      rw [hi] at hq
      obtain rfl := Option.some.inj hq
      rw [hd]
      simp only [Act.put]
      rw [Array.getElem?_setIfInBounds_self_of_lt (by rw [h.size]; exact dst_lt hi hd), hv d hd]
    · have hj' : lis L j := ((hl j).1 hj).resolve_left hji
      rw [hB j q hq hj', ← h.slots j q d hq hj' hd]
      cases hd2 : k.dst with
      | none => rfl
      | some d2 =>
        simp only [Act.put]
        rw [Array.getElem?_setIfInBounds_ne (fun e => hji (idx_unique hq hi hd (by rw [hd2, e])))]
theorem SI.ev {n0 : Nat} {w0 : World} {B : Bl} {L : Array Bool} {a : Act} {w : World} (h : SI n0 w0 B L a w) {j : Nat} {k : SK} {d : Nat} (hj : sCls[j]? = some k) (hl : lis L j) (hd : k.dst = some d) : a.eval (.tmp d) = sval B k := by
  simp [Act.eval, Array.getD_eq_getD_getElem?, h.slots j k d hj hl hd]
/-- An operation that makes no block and writes none. -/
theorem SI.quiet {n0 : Nat} {w0 : World} {B : Bl} {L : Array Bool} {a : Act} {w : World} (h : SI n0 w0 B L a w) {i : Nat} {k : SK} (hi : sCls[i]? = some k) (hn : ∀ t ∈ k.needs i, lis L t) (v : Value) (hv : ∀ d, k.dst = some d → v = sval B k)
    (k1 : k ≠ .mk1) (k2 : k ≠ .mk2) (k3 : k ≠ .sl) (k4 : k ≠ .bx) (k5 : ∀ e v, k ≠ .in1 e v) (k6 : ∀ e v t, k ≠ .in2 e v t) : SI n0 w0 B (L.setIfInBounds i true) (a.put k.dst v) w := by
  have hil : i < L.size := by
    rw [h.lsize, ← cLen]; exact (List.getElem?_eq_some_iff.1 hi).1
  have ne : ∀ (j : Nat) q, sCls[j]? = some q → k ≠ q → j ≠ i := fun j q hq hk e => hk (by rw [e, hi] at hq; exact Option.some.inj hq)
  refine h.next hi hn B v w hv (fun _ _ _ _ => rfl) h.below h.lo ?_ ?_ ?_ ?_ ?_
  · intro q
    obtain ⟨a1, l, a2, a3, a4⟩ := h.h1 (q.resolve_left (ne 0 _ c0 k1))
    exact ⟨a1, l, a2, a3, fun j e v hj hl => a4 j e v hj (((lis_set hil j).1 hl).resolve_left (ne j _ hj (k5 e v)))⟩
  · intro q
    obtain ⟨a1, l, a2, a3, a4⟩ := h.h2 (q.resolve_left (ne 54 _ c54 k2))
    exact ⟨a1, l, a2, a3, fun j e v t hj hl => a4 j e v t hj (((lis_set hil j).1 hl).resolve_left (ne j _ hj (k6 e v t)))⟩
  · exact fun q => h.h3 (q.resolve_left (ne 239 _ c239 k3))
  · exact fun q => h.h4 (q.resolve_left (ne 241 _ c241 k4))
  · exact fun q r => h.h12 (q.resolve_left (ne 0 _ c0 k1)) (r.resolve_left (ne 54 _ c54 k2))

theorem built_pair (a b : ByteArray) : Tryd.prog.built 129 [(0, .string a), (1, .string b)] = some #[.string a, .string b] := by kernel_rfl
theorem built_field (a b : ByteArray) : Tryd.prog.built 57 [(0, .string a), (1, .string b), (2, .bool false)] = some #[.string a, .string b, .bool false] := by kernel_rfl
theorem built_tab (b1 b2 g : Nat) : Tryd.prog.built 70 [(0, .bool true), (2, .int .u64 0), (3, .map (some b1)), (4, .map (some b2)), (1, .slice (some ⟨g, 0, none⟩) 61 61)] = some #[.bool true, .slice (some ⟨g, 0, none⟩) 61 61, .int .u64 0, .map (some b1), .map (some b2)] := by kernel_rfl
def fv (i : Nat) : Value := match HD.static[i]? with
  | some e => .agg (eCells e).toArray
  | none => undef
theorem bfFact : ((List.range 61).all fun i => match sCls[178 + i]?, HD.static[i]? with
    | some (.bf e t), some e' => decide (e = e' ∧ t = 66 + i)
    | _, _ => false) = true := by kernel_rfl
theorem infoF : (Tryd.prog.info? 57).map (fun i => (i.zero, i.size)) = some (some (.agg #[.string ByteArray.empty, .string ByteArray.empty, .bool false]), 3) := by kernel_rfl
theorem fillFact : Instr.fill (fun i => some (i * 3, 3)) ((Array.range (61 * 3)).map ((Value.agg #[.string ByteArray.empty, .string ByteArray.empty, .bool false]).cells[· % (Value.agg #[.string ByteArray.empty, .string ByteArray.empty, .bool false]).cells.size]!)) ((List.range 61).map fun i => (i, fv i)) = some (entCells HD.static).toArray := by kernel_rfl
theorem in1Fact : (sCls.all fun k => match k with
    | .in1 k v => HD.statS.contains (k, v)
    | _ => true) = true := by kernel_rfl
theorem in2Fact2 : (sCls.all fun k => match k with
    | .in2 e v _ => HD.statP.contains (e, v)
    | _ => true) = true := by kernel_rfl
theorem uniqS : (HD.statS.all fun p => HD.statS.all fun q => decide (p.1 = q.1 → p.2 = q.2)) = true := by kernel_rfl
theorem uniqP : (HD.statP.all fun p => HD.statP.all fun q => decide (p.1 = q.1 → p.2 = q.2)) = true := by kernel_rfl

theorem mem_mput {K : Type} [DecidableEq K] {l : List (K × Nat)} {k : K} {v : Nat} : (k, v) ∈ mput l k v := by
  unfold mput
  split
  · rename_i h
    obtain ⟨p, hp, rfl⟩ := List.mem_map.1 h
    exact List.mem_map.2 ⟨p, hp, by simp⟩
  · simp
theorem mem_mput_old {K : Type} [DecidableEq K] {l : List (K × Nat)} {k : K} {v : Nat} {p : K × Nat} (hp : p ∈ l) (hu : p.1 = k → p.2 = v) : p ∈ mput l k v := by
  unfold mput
  split
  · refine List.mem_map.2 ⟨p, hp, ?_⟩
    split
    · rename_i h; rw [← hu h]
    · rfl
  · simp [hp]
theorem of_mem_mput {K : Type} [DecidableEq K] {l : List (K × Nat)} {k : K} {v : Nat} {p : K × Nat} (hp : p ∈ mput l k v) : p = (k, v) ∨ p ∈ l := by
  unfold mput at hp
  split at hp
  · obtain ⟨q, hq, rfl⟩ := List.mem_map.1 hp
    split
    · rename_i h; exact Or.inl (by rw [← h])
    · exact Or.inr hq
  · simpa [or_comm] using hp
end Go.Proofs.YtjdmaflkafmmpaaDoor
/-
  A map is made.
-/
namespace Go.Proofs.YtjdmaflkafmmpaaDoor
open Go.ChangeShapes Go.WideShapes Go.ChangeAt Go.RowKit

theorem wpList_mkMap {P : Program} {ops : Array Oper} {rest : List Oper} {o : Oper} {a : Act} {w : World} {Q : Exit → Act → World → Prop} (hg : o.guard = none) (mt : TypeId) (ho : o.op = .makeMap mt none)
    (h : wpList P ops Q rest (a.put o.dst (.map (some w.heap.size))) (w.alloc (.map #[] 0))) : wpList P ops Q (o :: rest) a w := by
  refine wpList_plain hg fun K hK => ?_
  unfold Oper.wp
  simp only [execOp, ho, Option.map_none, Sem.run_bind, run_makeMap, Result.andThen_ok, Sem.run_pure]
  exact hK _ _ h
theorem mapMem_mk {K : Type} {enc : K → Value} (w : World) : MapMem enc (w.alloc (.map #[] 0)) w.heap.size ([] : List (K × Nat)) := ⟨by simp, #[], 0, heap_alloc_new w _, by simp⟩
end Go.Proofs.YtjdmaflkafmmpaaDoor
/-
  The contract of staticTable: each operation keeps the invariant; what stands in memory behind it.
-/
namespace Go.Proofs.YtjdmaflkafmmpaaDoor
open Go.ChangeShapes Go.WideShapes Go.ChangeAt Go.RowKit

theorem below_alloc {n0 : Nat} {w0 w : World} (h : Below n0 w0 w) (hl : n0 ≤ w.heap.size) (o : Obj) : Below n0 w0 (w.alloc o) := h.alloc hl o
theorem below_grown {n0 : Nat} {w0 w w' : World} (h : Below n0 w0 w) (hl : n0 ≤ w.heap.size) {b : Nat} (hg : w.grownBy w' (some b)) (hb : n0 ≤ b) : Below n0 w0 w' :=
  h.trans ⟨hg.os, hg.tape, hg.output, hg.size, fun k hk => hg.block k (by omega) (fun e => by have := Option.some.inj e; omega)⟩

set_option maxRecDepth 100000 in
theorem si_step {n0 : Nat} {w0 : World} {Q : Exit → Act → World → Prop} (L : Array Bool) (a : Act) (w : World) (i : Nat) (hI : ∃ B, SI n0 w0 B L a w) (hr : i ∈ Region.ready .any sOps L) :
    wpOp Tryd.prog sOps Q i (fun a' w' => ∃ B, SI n0 w0 B (L.setIfInBounds i true) a' w') a w := by
  obtain ⟨B, h⟩ := hI
  obtain ⟨hun, o, ho, haft⟩ := mem_ready.1 hr
  have hi : i < 243 := by rw [← sLen]; exact (Array.getElem?_eq_some_iff.1 ho).1
  obtain ⟨k, hk⟩ : ∃ k, sCls[i]? = some k := ⟨_, List.getElem?_eq_getElem (by rw [cLen]; exact hi)⟩
  have hil : i < L.size := by rw [h.lsize]; exact hi
  have hun' : ¬ lis L i := by
    unfold lis
    simp only [Array.getD_eq_getD_getElem?, Array.getElem?_eq_getElem hil, Option.getD_some] at hun ⊢
    simp [hun]
  obtain ⟨hdst, hop, hg⟩ : o.dst = k.dst ∧ o.op = k.op ∧ o.guard = none := by
    have e : (sOps.toList.map (fun o => (o.dst, o.op, o.guard)))[i]? = (sCls.map (fun k => (k.dst, k.op, none)))[i]? := by rw [opsFact]
    rw [List.getElem?_map, List.getElem?_map, hk, Array.getElem?_toList, ho] at e
    have e' := Option.some.inj e
    exact ⟨congrArg (·.1) e', congrArg (·.2.1) e', congrArg (·.2.2) e'⟩
  have hn : ∀ t ∈ k.needs i, lis L t := by
    have := List.all_eq_true.1 depsFact i (List.mem_range.2 hi)
    rw [hk, ho] at this
    intro t ht
    obtain ⟨e, he, he2⟩ := Array.any_eq_true'.1 (List.all_eq_true.1 this t ht)
    simp only [Bool.and_eq_true, beq_iff_eq] at he2
    have := haft e he he2.2
    rwa [he2.1] at this
  refine wpOp_plain ho hg ?_
  unfold Oper.wp
  rw [show execOp a.eval o = execOp a.eval { o with op := k.op } by unfold execOp; rw [hop]]
  have hset : ∀ j, lis (L.setIfInBounds i true) j → j = i ∨ lis L j := fun j => (lis_set hil j).1
  have ne : ∀ (j : Nat) q, sCls[j]? = some q → k ≠ q → j ≠ i := fun j q hq hkq e => hkq (by rw [e, hk] at hq; exact Option.some.inj hq)
  cases k with
  | mk1 =>
    obtain rfl : i = 0 := idx_unique hk c0 (d := 1) rfl rfl
    simp only [SK.op, execOp, Option.map_none, Sem.run_bind, run_makeMap, Result.andThen_ok, Sem.run_pure, Oper.upon]
    rw [hdst]
    refine ⟨Bl.mk w.heap.size B.b2 B.g B.x, h.next hk hn _ _ _ (fun d _ => rfl) ?_ (h.below.alloc h.lo _) (by simp; have := h.lo; omega) ?_ ?_ ?_ ?_ ?_⟩
    · intro j q hq hj
      have h53 : ¬ lis L 53 := fun h' => hun' (h.closed 53 _ c53 h' 0 (by simp [SK.needs]))
      cases q with
      | mk1 => exact absurd ((idx_unique hq c0 (d := 1) rfl rfl) ▸ hj) hun'
      | mv2 => exact absurd (h.closed j _ hq hj 0 (by simp [SK.needs])) hun'
      | st => exact absurd (h.closed j _ hq hj 53 (by simp [SK.needs])) h53
      | _ => rfl
    · intro _
      exact ⟨h.lo, [], mapMem_mk w, fun p hp => (List.not_mem_nil hp).elim, fun j e v hj hl => by
        rcases hset j hl with rfl | hl
        · rw [c0] at hj; cases hj
        · exact absurd (h.closed j _ hj hl 0 (by simp [SK.needs])) hun'⟩
    · intro q
      obtain ⟨a1, l, a2, a3, a4⟩ := h.h2 (q.resolve_left (by decide))
      exact ⟨a1, l, a2.of_heap (Below.heap_alloc _ _ _ a2.lt), a3, fun j e v t hj hl => a4 j e v t hj ((hset j hl).resolve_left (ne j _ hj (by simp)))⟩
    · intro q
      obtain ⟨a1, a2⟩ := h.h3 (q.resolve_left (by decide))
      exact ⟨a1, (Below.heap_alloc _ _ _ (Array.getElem?_eq_some_iff.1 a2).1).trans a2⟩
    · intro q
      have h241 := q.resolve_left (by decide)
      have h240 := h.closed 241 _ c241 h241 240 (by simp [SK.needs])
      have h53 := h.closed 240 _ c240 h240 53 (by simp [SK.needs])
      exact absurd (h.closed 53 _ c53 h53 0 (by simp [SK.needs])) hun'
    · intro _ r
      obtain ⟨a1, l, a2, -⟩ := h.h2 (r.resolve_left (by decide))
      exact Nat.ne_of_gt a2.lt
  | mk2 =>
    obtain rfl : i = 54 := idx_unique hk c54 (d := 3) rfl rfl
    simp only [SK.op, execOp, Option.map_none, Sem.run_bind, run_makeMap, Result.andThen_ok, Sem.run_pure, Oper.upon]
    rw [hdst]
    refine ⟨Bl.mk B.b1 w.heap.size B.g B.x, h.next hk hn _ _ _ (fun d _ => rfl) ?_ (h.below.alloc h.lo _) (by simp; have := h.lo; omega) ?_ ?_ ?_ ?_ ?_⟩
    · intro j q hq hj
      have h177 : ¬ lis L 177 := fun h' => hun' (h.closed 177 _ c177 h' 54 (by simp [SK.needs]))
      cases q with
      | mk2 => exact absurd ((idx_unique hq c54 (d := 3) rfl rfl) ▸ hj) hun'
      | mv65 => exact absurd (h.closed j _ hq hj 54 (by simp [SK.needs])) hun'
      | st => exact absurd (h.closed j _ hq hj 177 (by simp [SK.needs])) h177
      | _ => rfl
    · intro q
      obtain ⟨a1, l, a2, a3, a4⟩ := h.h1 (q.resolve_left (by decide))
      exact ⟨a1, l, a2.of_heap (Below.heap_alloc _ _ _ a2.lt), a3, fun j e v hj hl => a4 j e v hj ((hset j hl).resolve_left (ne j _ hj (by simp)))⟩
    · intro _
      exact ⟨h.lo, [], mapMem_mk w, fun p hp => (List.not_mem_nil hp).elim, fun j e v t hj hl => by
        rcases hset j hl with rfl | hl
        · rw [c54] at hj; cases hj
        · exact absurd (h.closed j _ hj hl 54 (by simp [SK.needs])) hun'⟩
    · intro q
      obtain ⟨a1, a2⟩ := h.h3 (q.resolve_left (by decide))
      exact ⟨a1, (Below.heap_alloc _ _ _ (Array.getElem?_eq_some_iff.1 a2).1).trans a2⟩
    · intro q
      have h241 := q.resolve_left (by decide)
      have h240 := h.closed 241 _ c241 h241 240 (by simp [SK.needs])
      have h177 := h.closed 240 _ c240 h240 177 (by simp [SK.needs])
      exact absurd (h.closed 177 _ c177 h177 54 (by simp [SK.needs])) hun'
    · intro r _
      obtain ⟨a1, l, a2, -⟩ := h.h1 (r.resolve_left (by decide))
      exact Nat.ne_of_lt a2.lt
  | mv2 =>
    simp only [SK.op, execOp, Sem.run_pure, Oper.upon]
    rw [hdst, h.ev (d := 1) c0 (hn 0 (by simp [SK.needs])) rfl]
    exact ⟨B, h.quiet hk hn _ (fun d _ => rfl) (by simp) (by simp) (by simp) (by simp) (by simp) (by simp)⟩
  | mv65 =>
    simp only [SK.op, execOp, Sem.run_pure, Oper.upon]
    rw [hdst, h.ev (d := 3) c54 (hn 54 (by simp [SK.needs])) rfl]
    exact ⟨B, h.quiet hk hn _ (fun d _ => rfl) (by simp) (by simp) (by simp) (by simp) (by simp) (by simp)⟩
  | fin =>
    simp only [SK.op, execOp, Sem.run_pure, Oper.upon]
    rw [hdst, h.ev (d := 129) c241 (hn 241 (by simp [SK.needs])) rfl]
    exact ⟨B, h.quiet hk hn _ (fun d _ => rfl) (by simp) (by simp) (by simp) (by simp) (by simp) (by simp)⟩
  | bp e t =>
    have hb := run_build (P := Tryd.prog) w 129 #[(0, .string ⟨e.1.toArray⟩), (1, .string ⟨e.2.toArray⟩)] _ (built_pair _ _)
    simp only [SK.op, execOp, List.map_toArray, List.map_cons, List.map_nil, Act.eval, Sem.run_bind, hb, Result.andThen_ok, Sem.run_pure, Oper.upon]
    rw [hdst]
    exact ⟨B, h.quiet hk hn _ (fun d _ => rfl) (by simp) (by simp) (by simp) (by simp) (by simp) (by simp)⟩
  | bf e t =>
    have hb := run_build (P := Tryd.prog) w 57 #[(0, .string ⟨e.1.toArray⟩), (1, .string ⟨e.2.toArray⟩), (2, .bool false)] _ (built_field _ _)
    simp only [SK.op, execOp, List.map_toArray, List.map_cons, List.map_nil, Act.eval, Sem.run_bind, hb, Result.andThen_ok, Sem.run_pure, Oper.upon]
    rw [hdst]
    exact ⟨B, h.quiet hk hn _ (fun d _ => rfl) (by simp) (by simp) (by simp) (by simp) (by simp) (by simp)⟩
  | st =>
    have e2 := h.ev (d := 2) c53 (hn 53 (by simp [SK.needs])) rfl
    have e65 := h.ev (d := 65) c177 (hn 177 (by simp [SK.needs])) rfl
    have e127 := h.ev (d := 127) c239 (hn 239 (by simp [SK.needs])) rfl
    have hb := run_build (P := Tryd.prog) w 70 #[(0, .bool true), (2, .int .u64 0), (3, .map (some B.b1)), (4, .map (some B.b2)), (1, .slice (some ⟨B.g, 0, none⟩) 61 61)] _ (built_tab B.b1 B.b2 B.g)
    have ec1 : a.eval (.const (.bool true)) = .bool true := rfl
    have ec2 : a.eval (.const (.int .u64 0)) = .int .u64 0 := rfl
    simp only [SK.op, execOp, List.map_toArray, List.map_cons, List.map_nil, e2, e65, e127, ec1, ec2, sval, Sem.run_bind, hb, Result.andThen_ok, Sem.run_pure, Oper.upon]
    rw [hdst]
    exact ⟨B, h.quiet hk hn _ (fun d _ => rfl) (by simp) (by simp) (by simp) (by simp) (by simp) (by simp)⟩
  | bx =>
    obtain rfl : i = 241 := idx_unique hk c241 (d := 129) rfl rfl
    have e128 := h.ev (d := 128) c240 (hn 240 (by simp [SK.needs])) rfl
    have hb : (Instr.box 70 (.agg (tabCells B))).run Tryd.prog w = .ok (.pointer (some ⟨w.heap.size, 0, none⟩)) (w.alloc (.cells (tabCells B) 70)) := rfl
    simp only [SK.op, execOp, e128, sval, Sem.run_bind, hb, Result.andThen_ok, Sem.run_pure, Oper.upon]
    rw [hdst]
    refine ⟨Bl.mk B.b1 B.b2 B.g w.heap.size, h.next hk hn _ _ _ (fun d _ => rfl) ?_ (h.below.alloc h.lo _) (by simp; have := h.lo; omega) ?_ ?_ ?_ ?_ ?_⟩
    · intro j q hq hj
      cases q with
      | bx => exact absurd ((idx_unique hq c241 (d := 129) rfl rfl) ▸ hj) hun'
      | fin => exact absurd (h.closed j _ hq hj 241 (by simp [SK.needs])) hun'
      | _ => rfl
    · intro q
      obtain ⟨a1, l, a2, a3, a4⟩ := h.h1 (q.resolve_left (by decide))
      exact ⟨a1, l, a2.of_heap (Below.heap_alloc _ _ _ a2.lt), a3, fun j e v hj hl => a4 j e v hj ((hset j hl).resolve_left (ne j _ hj (by simp)))⟩
    · intro q
      obtain ⟨a1, l, a2, a3, a4⟩ := h.h2 (q.resolve_left (by decide))
      exact ⟨a1, l, a2.of_heap (Below.heap_alloc _ _ _ a2.lt), a3, fun j e v t hj hl => a4 j e v t hj ((hset j hl).resolve_left (ne j _ hj (by simp)))⟩
    · intro q
      obtain ⟨a1, a2⟩ := h.h3 (q.resolve_left (by decide))
      exact ⟨a1, (Below.heap_alloc _ _ _ (Array.getElem?_eq_some_iff.1 a2).1).trans a2⟩
    · intro _
      exact ⟨h.lo, heap_alloc_new w _⟩
    · intro q r
      exact h.h12 (q.resolve_left (by decide)) (r.resolve_left (by decide))
  | sl =>
    obtain rfl : i = 239 := idx_unique hk c239 (d := 127) rfl rfl
    have hparts : ((((List.range 61).map fun i => (i, Operand.tmp (66 + i))).toArray.map fun (i, x) => (i, a.eval x))).toList = (List.range 61).map fun i => (i, fv i) := by
      simp only [List.map_toArray, List.map_map]
      refine List.map_congr_left fun j hj => ?_
      have hj' : j < 61 := List.mem_range.1 hj
      have := List.all_eq_true.1 bfFact j hj
      have hl : lis L (178 + j) := hn _ (by simp [SK.needs]; exact hj')
      split at this
      · rename_i e t e' h1 h2
        obtain ⟨rfl, rfl⟩ := of_decide_eq_true this
        have := h.ev (d := 66 + j) h1 hl rfl
        simp only [Function.comp, this, fv, h2, sval]
      · cases this
    obtain ⟨ie, hie, hz, hs⟩ : ∃ ie, Tryd.prog.info? 57 = some ie ∧ ie.zero = some (.agg #[.string ByteArray.empty, .string ByteArray.empty, .bool false]) ∧ ie.size = 3 := by
      have hF := infoF
      cases hi : Tryd.prog.info? 57 with
      | none => rw [hi] at hF; cases hF
      | some ie =>
        rw [hi] at hF
        simp at hF
        exact ⟨ie, rfl, hF.1, hF.2⟩
    have hb := run_buildSlice (P := Tryd.prog) w 65 57 61 ((((List.range 61).map fun i => (i, Operand.tmp (66 + i))).toArray.map fun (i, x) => (i, a.eval x))) (entCells HD.static).toArray ie _ Tryd.underlying65 hie hz (by rw [hs]; decide) (by rw [hs]; decide) (by rw [hs, hparts]; exact fillFact)
    simp only [SK.op, execOp, Sem.run_bind, hb, Result.andThen_ok, Sem.run_pure, Oper.upon]
    rw [hdst]
    refine ⟨Bl.mk B.b1 B.b2 w.heap.size B.x, h.next hk hn _ _ _ (fun d _ => rfl) ?_ (h.below.alloc h.lo _) (by simp; have := h.lo; omega) ?_ ?_ ?_ ?_ ?_⟩
    · intro j q hq hj
      cases q with
      | sl => exact absurd ((idx_unique hq c239 (d := 127) rfl rfl) ▸ hj) hun'
      | st => exact absurd (h.closed j _ hq hj 239 (by simp [SK.needs])) hun'
      | _ => rfl
    · intro q
      obtain ⟨a1, l, a2, a3, a4⟩ := h.h1 (q.resolve_left (by decide))
      exact ⟨a1, l, a2.of_heap (Below.heap_alloc _ _ _ a2.lt), a3, fun j e v hj hl => a4 j e v hj ((hset j hl).resolve_left (ne j _ hj (by simp)))⟩
    · intro q
      obtain ⟨a1, l, a2, a3, a4⟩ := h.h2 (q.resolve_left (by decide))
      exact ⟨a1, l, a2.of_heap (Below.heap_alloc _ _ _ a2.lt), a3, fun j e v t hj hl => a4 j e v t hj ((hset j hl).resolve_left (ne j _ hj (by simp)))⟩
    · intro _
      exact ⟨h.lo, heap_alloc_new w _⟩
    · intro q
      have h241 := q.resolve_left (by decide)
      have h240 := h.closed 241 _ c241 h241 240 (by simp [SK.needs])
      exact absurd (h.closed 240 _ c240 h240 239 (by simp [SK.needs])) hun'
    · intro q r
      exact h.h12 (q.resolve_left (by decide)) (r.resolve_left (by decide))
  | in1 e v =>
    obtain ⟨b0, l, m1, m2, m3⟩ := h.h1 (hn 0 (by simp [SK.needs]))
    have hmem : (e, v) ∈ HD.statS := by simpa using List.all_eq_true.1 in1Fact _ (List.mem_of_getElem? hk)
    have e1 := h.ev (d := 1) c0 (hn 0 (by simp [SK.needs])) rfl
    obtain ⟨w', hrun, r1, r2, r3⟩ := run_mput (key_string Tryd.underlying9) Tryd.underlying67 m1 e v
    have ec1 : a.eval (.const (encS e)) = encS e := rfl
    have ec2 : a.eval (.const (.int .u64 (v : Nat))) = .int .u64 (v : Nat) := rfl
    simp only [SK.op, execOp, e1, ec1, ec2, sval, Sem.run_bind, hrun, Result.andThen_ok, Sem.run_pure, Oper.upon]
    rw [hdst]
    have hh : ∀ b, b < w.heap.size → b ≠ B.b1 → w'.heap[b]? = w.heap[b]? := fun b hb hne => r2.block b hb (fun e => hne (Option.some.inj e))
    refine ⟨B, h.next hk hn _ _ _ (fun d hd => by cases hd) (fun _ _ _ _ => rfl) (below_grown h.below h.lo r2 b0) (by rw [r3]; exact h.lo) ?_ ?_ ?_ ?_ ?_⟩
    · intro _
      refine ⟨b0, _, r1, fun p hp => ?_, fun j e' v' hj hl => ?_⟩
      · rcases of_mem_mput hp with rfl | hp
        · exact hmem
        · exact m2 p hp
      · rcases hset j hl with rfl | hl
        · rw [hk] at hj
          injection hj with hj
          injection hj with ha hb
          subst ha; subst hb
          exact mem_mput
        · have hp := m3 j e' v' hj hl
          refine mem_mput_old hp fun heq => ?_
          have := of_decide_eq_true (List.all_eq_true.1 (List.all_eq_true.1 uniqS _ (m2 _ hp)) _ hmem)
          exact this heq
    · intro q
      have h54 := q.resolve_left (ne 54 _ c54 (by simp))
      obtain ⟨a1, l2, a2, a3, a4⟩ := h.h2 h54
      exact ⟨a1, l2, a2.of_heap (hh _ a2.lt (Ne.symm (h.h12 (hn 0 (by simp [SK.needs])) h54))), a3, fun j e v t hj hl => a4 j e v t hj ((hset j hl).resolve_left (ne j _ hj (by simp)))⟩
    · intro q
      obtain ⟨a1, a2⟩ := h.h3 (q.resolve_left (ne 239 _ c239 (by simp)))
      refine ⟨a1, (hh _ (Array.getElem?_eq_some_iff.1 a2).1 (fun e => ?_)).trans a2⟩
      obtain ⟨-, es, c, hb, -⟩ := m1
      rw [e, hb] at a2; cases a2
    · intro q
      obtain ⟨a1, a2⟩ := h.h4 (q.resolve_left (ne 241 _ c241 (by simp)))
      refine ⟨a1, (hh _ (Array.getElem?_eq_some_iff.1 a2).1 (fun e => ?_)).trans a2⟩
      obtain ⟨-, es, c, hb, -⟩ := m1
      rw [e, hb] at a2; cases a2
    · exact fun q r => h.h12 (q.resolve_left (ne 0 _ c0 (by simp))) (r.resolve_left (ne 54 _ c54 (by simp)))
  | in2 e v t =>
    obtain ⟨b0, l, m1, m2, m3⟩ := h.h2 (hn 54 (by simp [SK.needs]))
    have hmem : (e, v) ∈ HD.statP := by simpa using List.all_eq_true.1 in2Fact2 _ (List.mem_of_getElem? hk)
    have e3 := h.ev (d := 3) c54 (hn 54 (by simp [SK.needs])) rfl
    have hprev : sCls[i - 1]? = some (.bp e t) := by
      have := List.all_eq_true.1 in2Fact (.in2 e v t, i) (by rw [List.mem_zipIdx_iff_getElem?]; exact hk)
      dsimp only at this
      split at this
      · rename_i e' t' h1
        obtain ⟨rfl, rfl⟩ := of_decide_eq_true this
        exact h1
      · cases this
    have et := h.ev (d := t) hprev (hn (i - 1) (by simp [SK.needs])) rfl
    obtain ⟨w', hrun, r1, r2, r3⟩ := run_mput key_pair Tryd.underlying68 m1 e v
    have ec2 : a.eval (.const (.int .u64 (v : Nat))) = .int .u64 (v : Nat) := rfl
    simp only [SK.op, execOp, e3, et, ec2, sval, Sem.run_bind, hrun, Result.andThen_ok, Sem.run_pure, Oper.upon]
    rw [hdst]
    have hh : ∀ b, b < w.heap.size → b ≠ B.b2 → w'.heap[b]? = w.heap[b]? := fun b hb hne => r2.block b hb (fun e => hne (Option.some.inj e))
    refine ⟨B, h.next hk hn _ _ _ (fun d hd => by cases hd) (fun _ _ _ _ => rfl) (below_grown h.below h.lo r2 b0) (by rw [r3]; exact h.lo) ?_ ?_ ?_ ?_ ?_⟩
    · intro q
      have h0 := q.resolve_left (ne 0 _ c0 (by simp))
      obtain ⟨a1, l2, a2, a3, a4⟩ := h.h1 h0
      exact ⟨a1, l2, a2.of_heap (hh _ a2.lt (h.h12 h0 (hn 54 (by simp [SK.needs])))), a3, fun j e v hj hl => a4 j e v hj ((hset j hl).resolve_left (ne j _ hj (by simp)))⟩
    · intro _
      refine ⟨b0, _, r1, fun p hp => ?_, fun j e' v' t' hj hl => ?_⟩
      · rcases of_mem_mput hp with rfl | hp
        · exact hmem
        · exact m2 p hp
      · rcases hset j hl with rfl | hl
        · rw [hk] at hj
          injection hj with hj
          injection hj with ha hb
          subst ha; subst hb
          exact mem_mput
        · have hp := m3 j e' v' t' hj hl
          refine mem_mput_old hp fun heq => ?_
          have := of_decide_eq_true (List.all_eq_true.1 (List.all_eq_true.1 uniqP _ (m2 _ hp)) _ hmem)
          exact this heq
    · intro q
      obtain ⟨a1, a2⟩ := h.h3 (q.resolve_left (ne 239 _ c239 (by simp)))
      refine ⟨a1, (hh _ (Array.getElem?_eq_some_iff.1 a2).1 (fun e => ?_)).trans a2⟩
      obtain ⟨-, es, c, hb, -⟩ := m1
      rw [e, hb] at a2; cases a2
    · intro q
      obtain ⟨a1, a2⟩ := h.h4 (q.resolve_left (ne 241 _ c241 (by simp)))
      refine ⟨a1, (hh _ (Array.getElem?_eq_some_iff.1 a2).1 (fun e => ?_)).trans a2⟩
      obtain ⟨-, es, c, hb, -⟩ := m1
      rw [e, hb] at a2; cases a2
    · exact fun q r => h.h12 (q.resolve_left (ne 0 _ c0 (by simp))) (r.resolve_left (ne 54 _ c54 (by simp)))

/-- The static table in memory, in blocks that are not older than n0. -/
structure StatMem (n0 : Nat) (w : World) (B : Bl) : Prop where
  x : n0 ≤ B.x ∧ w.heap[B.x]? = some (xObj B)
  g : n0 ≤ B.g ∧ w.heap[B.g]? = some gObj
  m1 : n0 ≤ B.b1 ∧ ∃ l, MapMem encS w B.b1 l ∧ ∀ p, p ∈ l ↔ p ∈ HD.statS
  m2 : n0 ≤ B.b2 ∧ ∃ l, MapMem encP w B.b2 l ∧ ∀ p, p ∈ l ↔ p ∈ HD.statP

set_option maxRecDepth 100000 in
theorem si_done {n0 : Nat} {w0 : World} {L : Array Bool} {a : Act} {w : World} (hI : ∃ B, SI n0 w0 B L a w) (hr : Region.ready .any sOps L = []) :
    ∃ B, StatMem n0 w B ∧ Below n0 w0 w ∧ a.defers = [] ∧ a.tmps[0]? = some (.pointer (some ⟨B.x, 0, none⟩)) := by
  obtain ⟨B, h⟩ := hI
  have hall : ∀ i, i < 243 → lis L i := fun i hi => all_listed (ops := sOps) (md := .any) (by rw [h.lsize, sLen]) (fun i o ho e he => by
    have hi : i < 243 := by rw [← sLen]; exact (Array.getElem?_eq_some_iff.1 ho).1
    have := List.all_eq_true.1 acycFact i (List.mem_range.2 hi)
    rw [ho] at this
    simpa using Array.all_eq_true'.1 this e he) hr i (by rw [sLen]; exact hi)
  refine ⟨B, ⟨h.h4 (hall 241 (by decide)), h.h3 (hall 239 (by decide)), ?_, ?_⟩, h.below, h.defers, h.slots 242 _ 0 c242 (hall 242 (by decide)) rfl⟩
  · obtain ⟨a1, l, a2, a3, a4⟩ := h.h1 (hall 0 (by decide))
    refine ⟨a1, l, a2, fun p => ⟨a3 p, fun hp => ?_⟩⟩
    have hm : SK.in1 p.1 p.2 ∈ sCls := by
      unfold sCls
      simp only [List.cons_append, List.mem_cons, List.mem_append, List.mem_map]
      exact Or.inr (Or.inl (Or.inl (Or.inl (Or.inl (Or.inl ⟨p, hp, rfl⟩)))))
    obtain ⟨j, hj, e⟩ := List.getElem_of_mem hm
    exact a4 j p.1 p.2 (by rw [List.getElem?_eq_getElem hj, e]) (hall j (by rw [← cLen]; exact hj))
  · obtain ⟨a1, l, a2, a3, a4⟩ := h.h2 (hall 54 (by decide))
    refine ⟨a1, l, a2, fun p => ⟨a3 p, fun hp => ?_⟩⟩
    obtain ⟨q, hq, rfl⟩ := List.mem_map.1 (show p ∈ HD.static.zipIdx.map _ from hp)
    have hm : SK.in2 q.1 (q.2 + 1) (4 + q.2) ∈ sCls := by
      unfold sCls
      simp only [List.cons_append, List.mem_cons, List.mem_append, List.mem_flatMap]
      exact Or.inr (Or.inl (Or.inl (Or.inl (Or.inr ⟨q, hq, by simp⟩))))
    obtain ⟨j, hj, e⟩ := List.getElem_of_mem hm
    exact a4 j q.1 (q.2 + 1) (4 + q.2) (by rw [List.getElem?_eq_getElem hj, e]) (hall j (by rw [← cLen]; exact hj))
end Go.Proofs.YtjdmaflkafmmpaaDoor
/-
  The contract of staticTable.
-/
namespace Go.Proofs.YtjdmaflkafmmpaaDoor
open Go.ChangeShapes Go.WideShapes Go.ChangeAt Go.RowKit

def sReg0 : Array Oper := #[{ dst := some 0, op := .assign (.const (.pointer none)), type := 98, pos := "static_table.go:6", after := #[], guard := none }]
theorem bodyEq : Tryd.f60.body = some (.seq (.region 0 sReg0 false) (.seq (.region 1 sOps true) .ret)) := by kernel_rfl
theorem resEq : Tryd.f60.results = #[.tmp 0] := by kernel_rfl
theorem si_start (n0 : Nat) (w0 w : World) (tm : Array Value) (hs : tm.size = 130) (hb : Below n0 w0 w) (hl : n0 ≤ w.heap.size) : ∃ B, SI n0 w0 B (Array.replicate 243 false) ⟨tm, []⟩ w := by
  have hno : ∀ i, ¬ lis (Array.replicate 243 false) i := fun i h => by
    unfold lis at h
    rw [Array.getD_eq_getD_getElem?, Array.getElem?_replicate] at h
    split at h <;> simp at h
  exact ⟨⟨0, 0, 0, 0⟩, rfl, hs, by simp, hb, hl, fun j _ _ h => absurd h (hno j), fun j _ _ _ h => absurd h (hno j), fun h => absurd h (hno 0), fun h => absurd h (hno 54), fun h => absurd h (hno 239), fun h => absurd h (hno 241), fun h => absurd h (hno 0)⟩

set_option maxRecDepth 100000 in
theorem static_any (w : World) : Calls Tryd.prog 60 #[] w fun e w' => ∃ B : Bl, e = .returned (.pointer (some ⟨B.x, 0, none⟩)) ∧ StatMem w.heap.size w' B ∧ Below w.heap.size w w' := by
  refine calls_of_wp Tryd.func60 bodyEq ?_
  refine wp_seq (wp_region ?_)
  rw [show List.range sReg0.size = [0] from rfl, wpOps_cons]
  refine wpOp_plain (show sReg0[0]? = some _ from rfl) rfl ?_
  unfold Oper.wp
  simp only [execOp, Oper.upon, wpOps, Exit.then, Act.put]
  refine wp_seq (wp_region_any (by kernel_rfl) (wpAny_inv (fun L a w' => ∃ B, SI w.heap.size w B L a w') (fun L a w' i hI hi => si_step L a w' i hI hi) (fun L a w' hI hr => ?_) _ _ _ _ ?_ ?_))
  · obtain ⟨B, hS, hb, hd, h0⟩ := si_done hI hr
    simp only [Exit.then]
    refine wp_ret ⟨hd, .pointer (some ⟨B.x, 0, none⟩), ?_, B, rfl, hS, hb⟩
    simp only [results, resEq]
    simp [Array.getD_eq_getD_getElem?, h0]
  · rw [sLen]
    refine si_start _ _ _ _ ?_ ⟨rfl, rfl, rfl, Nat.le_refl _, fun _ _ => rfl⟩ (Nat.le_refl _)
    rw [Array.size_setIfInBounds]
    simp only [show Tryd.f60.ntmps = 130 by kernel_rfl]
    rfl
  · exact Nat.le_trans (List.length_filter_le _ _) (Nat.le_of_eq List.length_range)
end Go.Proofs.YtjdmaflkafmmpaaDoor
/-
  Contracts of idToIndex, search: what a table's maps tell of a field.
-/
namespace Go.Proofs.YtjdmaflkafmmpaaDoor
open Go.ChangeShapes Go.WideShapes Go.ChangeAt Go.RowKit

/-- A table as its search reads it. -/
structure TabView (w : World) (b : Nat) (st : Bool) (n cnt : Nat) (l1 : List (HD.Bs × Nat)) (l2 : List ((HD.Bs × HD.Bs) × Nat)) : Prop where
  c0 : w.cell? ⟨b, 0, none⟩ = some (.bool st)
  c1 : ∃ a c, w.cell? ⟨b, 1, none⟩ = some (.slice a n c)
  c2 : w.cell? ⟨b, 2, none⟩ = some (.int .u64 (cnt : Nat))
  m1 : ∃ m, w.cell? ⟨b, 3, none⟩ = some (.map (some m)) ∧ MapMem encS w m l1
  m2 : ∃ m, w.cell? ⟨b, 4, none⟩ = some (.map (some m)) ∧ MapMem encP w m l2
theorem TabView.below {w w' : World} {b : Nat} {st : Bool} {n cnt : Nat} {l1 : List (HD.Bs × Nat)} {l2 : List ((HD.Bs × HD.Bs) × Nat)} (h : TabView w b st n cnt l1 l2) (hb : Below w.heap.size w w') : TabView w' b st n cnt l1 l2 := by
  have hlt := World.block_lt_of_cell? w _ h.c0
  have key : ∀ i, w'.cell? ⟨b, i, none⟩ = w.cell? ⟨b, i, none⟩ := fun i => hb.cell (p := ⟨b, i, none⟩) hlt
  obtain ⟨a, c, h1⟩ := h.c1
  obtain ⟨p, h3, k3⟩ := h.m1
  obtain ⟨q, h4, k4⟩ := h.m2
  exact ⟨(key 0).trans h.c0, ⟨a, c, (key 1).trans h1⟩, (key 2).trans h.c2, ⟨p, (key 3).trans h3, k3.of_heap (hb.block p k3.lt)⟩, ⟨q, (key 4).trans h4, k4.of_heap (hb.block q k4.lt)⟩⟩
theorem TabMem.view {B : Nat} {w : World} {b n : Nat} {f : Nat → Value} {ents : List (HD.Bs × HD.Bs)} {cnt : Nat} {ev : Value} {m1 m2 : Nat} {l1 : List (HD.Bs × Nat)} {l2 : List ((HD.Bs × HD.Bs) × Nat)} (h : TabMem B w b n f ents cnt ev m1 m2 l1 l2) : TabView w b false ents.length cnt l1 l2 := by
  have hbig := h.big
  obtain ⟨a, c, e⟩ := own_form h.own
  exact ⟨h.row.cell' (by omega) h.c0, ⟨a, c, h.row.cell' (by omega) (h.c1.trans e)⟩, h.row.cell' (by omega) h.c2, ⟨m1, h.row.cell' (by omega) h.c3, h.map1⟩, ⟨m2, h.row.cell' (by omega) h.c4, h.map2⟩⟩
theorem StatMem.view {n0 : Nat} {w : World} {B : Bl} (h : StatMem n0 w B) : ∃ l1 l2, TabView w B.x true 61 0 l1 l2 ∧ SOk l1 l2 := by
  obtain ⟨-, l1, k1, e1⟩ := h.m1
  obtain ⟨-, l2, k2, e2⟩ := h.m2
  have key := fun i => Lib.cell_of_heap h.x.2 i
  exact ⟨l1, l2, ⟨(key 0).trans rfl, ⟨_, _, (key 1).trans rfl⟩, (key 2).trans rfl, ⟨_, (key 3).trans rfl, k1⟩, ⟨_, (key 4).trans rfl, k2⟩⟩, e1, e2⟩

set_option maxRecDepth 100000 in
theorem idIdx_any (b : Nat) (st : Bool) (n cnt id : Nat) (a : Option Addr) (c : Nat) (w : World) (c0 : w.cell? ⟨b, 0, none⟩ = some (.bool st)) (c1 : w.cell? ⟨b, 1, none⟩ = some (.slice a n c)) (c2 : w.cell? ⟨b, 2, none⟩ = some (.int .u64 (cnt : Nat)))
    (h1 : cnt < id) (h2 : id ≤ cnt + n) (hn : n ≤ 2 ^ 40) (_hc : cnt < 2 ^ 62) :
    Calls Tryd.prog 70 #[.pointer (some ⟨b, 0, none⟩), .int .u64 (id : Nat)] w fun e w' => e = .returned (.int .u64 (sIdx st n cnt id : Nat)) ∧ w = w' := by
  have d1 : decide ((id : Int) ≤ (cnt : Int)) = false := decide_eq_false (by omega)
  obtain ⟨k, hk⟩ : ∃ k, id = cnt + k + 1 := ⟨id - cnt - 1, by omega⟩
  have hw1 : IntKind.u64.wrap ((id : Int) - (cnt : Int)) = (k : Int) + 1 := by simp only [IntKind.wrap, IntKind.bits, IntKind.signed]; simp; omega
  have hw2 : IntKind.u64.wrap ((k : Int) + 1 - 1) = (k : Int) := by simp only [IntKind.wrap, IntKind.bits, IntKind.signed]; simp; omega
  have hw0 : IntKind.u64.wrap (k : Int) = (k : Int) := by simp only [IntKind.wrap, IntKind.bits, IntKind.signed]; simp; omega
  have hw3 : IntKind.u64.wrap (n : Int) = (n : Int) := by simp only [IntKind.wrap, IntKind.bits, IntKind.signed]; simp; omega
  have hw4 : IntKind.u64.wrap ((n : Int) - (k : Int)) = ((n - k : Nat) : Int) := by simp only [IntKind.wrap, IntKind.bits, IntKind.signed]; simp; omega
  have hw5 : IntKind.u64.wrap ((k : Int) + 1) = ((k + 1 : Nat) : Int) := by simp only [IntKind.wrap, IntKind.bits, IntKind.signed]; simp; omega
  have Hk := Lib.hid hk
  have hI : (cnt : Int) < (id : Int) := by omega
  clear hk h1 h2
  cases st with
  | true =>
    go_enter Tryd.func70, Tryd.ntmps70
    go_wp2_with fail
    go_ret
    exact ⟨ret_int (by have := Hk.out; simp only [sIdx, if_true]; omega), rfl⟩
  | false =>
    go_enter Tryd.func70, Tryd.ntmps70
    go_wp2_with fail
    refine (len_any b n c a _ (by exact c1)).mono ?_
    rintro e w1 ⟨rfl, rfl⟩
    go_wp2_with fail
    go_ret
    exact ⟨ret_int (by have := Hk.out; simp [sIdx]; omega), rfl⟩

theorem sFind_pair {st : Bool} {n cnt id : Nat} {l1 : List (HD.Bs × Nat)} {l2 : List ((HD.Bs × HD.Bs) × Nat)} {f : HD.Fld} (h : f.sens = false) (h2 : mget l2 (f.name, f.value) = some id) : sFind st n cnt l1 l2 f = (sIdx st n cnt id, true) := by
  unfold sFind; rw [h]; simp [h2]
theorem sFind_name {st : Bool} {n cnt id : Nat} {l1 : List (HD.Bs × Nat)} {l2 : List ((HD.Bs × HD.Bs) × Nat)} {f : HD.Fld} (h : f.sens = true ∨ mget l2 (f.name, f.value) = none) (h1 : mget l1 f.name = some id) : sFind st n cnt l1 l2 f = (sIdx st n cnt id, false) := by
  have : (if f.sens then none else mget l2 (f.name, f.value)) = none := by rcases h with h | h <;> simp [h]
  unfold sFind; rw [this]; simp [h1]
theorem sFind_none {st : Bool} {n cnt : Nat} {l1 : List (HD.Bs × Nat)} {l2 : List ((HD.Bs × HD.Bs) × Nat)} {f : HD.Fld} (h : f.sens = true ∨ mget l2 (f.name, f.value) = none) (h1 : mget l1 f.name = none) : sFind st n cnt l1 l2 f = (0, false) := by
  have : (if f.sens then none else mget l2 (f.name, f.value)) = none := by rcases h with h | h <;> simp [h]
  unfold sFind; rw [this]; simp [h1]
set_option maxHeartbeats 2000000 in
set_option maxRecDepth 100000 in
theorem search_any (b : Nat) (st : Bool) (n cnt : Nat) (l1 : List (HD.Bs × Nat)) (l2 : List ((HD.Bs × HD.Bs) × Nat)) (f : HD.Fld) (w : World) (hV : TabView w b st n cnt l1 l2) (hin : MIn n cnt l1 l2) (hn : n ≤ 2 ^ 40) (hc : cnt < 2 ^ 62) :
    Calls Tryd.prog 61 #[.pointer (some ⟨b, 0, none⟩), .agg #[.string ⟨f.name.toArray⟩, .string ⟨f.value.toArray⟩, .bool f.sens]] w fun e w' =>
      e = .returned (.tuple #[.int .u64 ((sFind st n cnt l1 l2 f).1 : Nat), .bool (sFind st n cnt l1 l2 f).2]) ∧ Below w.heap.size w w' := by
  obtain ⟨nm, vl, ss⟩ := f
  have hbl := World.block_lt_of_cell? w _ hV.c0
  have hV1 := hV.below ((Below.refl _ w).alloc (Nat.le_refl _) (.cells #[.string ⟨nm.toArray⟩, .string ⟨vl.toArray⟩, .bool ss] 57))
  obtain ⟨a, c, c1⟩ := hV1.c1
  obtain ⟨p1, c3, hM1⟩ := hV1.m1
  obtain ⟨p2, c4, hM2⟩ := hV1.m2
  have c0 := hV1.c0
  have c2 := hV1.c2
  have hl1 := fun q => look_name (w := (w.alloc (.cells #[.string ⟨nm.toArray⟩, .string ⟨vl.toArray⟩, .bool ss] 57)).drewN q) (hM1.of_heap rfl) nm
  have hl2 := fun q => look_pair (w := (w.alloc (.cells #[.string ⟨nm.toArray⟩, .string ⟨vl.toArray⟩, .bool ss] 57)).drewN q) (hM2.of_heap rfl) (nm, vl)
  have hb0 : Below w.heap.size w (w.alloc (.cells #[.string ⟨nm.toArray⟩, .string ⟨vl.toArray⟩, .bool ss] 57)) := (Below.refl _ w).alloc (Nat.le_refl _) _
  have HB0 := Lib.hid hb0
  have Hin1 := Lib.hid (hin.1 nm)
  have Hin2 := Lib.hid (hin.2 (nm, vl))
  have C0 := Lib.hid c0
  have C1 := Lib.hid c1
  have C2 := Lib.hid c2
  clear hV hV1 hin hb0
  cases ss with
  | false =>
    cases hi2 : mget l2 (nm, vl) with
    | some id =>
      have Hi2 := Lib.hid hi2
      rw [hi2] at hl2
      obtain ⟨h1, h2⟩ := Hin2.out id hi2
      have hne : (id : Int) ≠ 0 := by omega
      have hR := sFind_pair (st := st) (n := n) (cnt := cnt) (l1 := l1) (l2 := l2) (f := ⟨nm, vl, false⟩) rfl hi2
      rw [hR]
      clear hR hi2
      simp only [Option.getD_some] at hl2
      go_enter Tryd.func61, Tryd.ntmps61
      go_wp2_with fail
      go_quiet (fail)
      go_wp2_with fail
      refine (idIdx_any b st n cnt id a c _ (by exact C0.out) (by exact C1.out) (by exact C2.out) h1 h2 hn hc).mono ?_
      rintro e w1 ⟨rfl, rfl⟩
      go_wp2_with fail
      go_ret2
      exact ⟨rfl, HB0.out.trans ⟨rfl, rfl, rfl, Nat.le_refl _, fun _ _ => rfl⟩⟩
    | none =>
      have Hi2 := Lib.hid hi2
      rw [hi2] at hl2
      simp only [Option.getD_none] at hl2
      clear hi2
      cases hi1 : mget l1 nm with
      | some id =>
        have Hi1 := Lib.hid hi1
        rw [hi1] at hl1
        obtain ⟨h1, h2⟩ := Hin1.out id hi1
        have hne : (id : Int) ≠ 0 := by omega
        have hR := sFind_name (st := st) (n := n) (cnt := cnt) (l1 := l1) (l2 := l2) (f := ⟨nm, vl, false⟩) (Or.inr Hi2.out) hi1
        rw [hR]
        clear hR hi1
        simp only [Option.getD_some] at hl1
        go_enter Tryd.func61, Tryd.ntmps61
        go_wp2_with fail
        go_quiet (fail)
        go_wp2_with fail
        go_quiet (fail)
        go_wp2_with fail
        refine (idIdx_any b st n cnt id a c _ (by exact C0.out) (by exact C1.out) (by exact C2.out) h1 h2 hn hc).mono ?_
        rintro e w1 ⟨rfl, rfl⟩
        go_wp2_with fail
        go_ret2
        exact ⟨rfl, HB0.out.trans ⟨rfl, rfl, rfl, Nat.le_refl _, fun _ _ => rfl⟩⟩
      | none =>
        rw [hi1] at hl1
        have hR := sFind_none (st := st) (n := n) (cnt := cnt) (l1 := l1) (l2 := l2) (f := ⟨nm, vl, false⟩) (Or.inr Hi2.out) hi1
        rw [hR]
        clear hR hi1
        simp only [Option.getD_none] at hl1
        go_enter Tryd.func61, Tryd.ntmps61
        go_wp2_with fail
        go_quiet (fail)
        go_wp2_with fail
        go_quiet (fail)
        go_wp2_with fail
        go_ret2
        exact ⟨rfl, HB0.out.trans ⟨rfl, rfl, rfl, Nat.le_refl _, fun _ _ => rfl⟩⟩
  | true =>
    cases hi1 : mget l1 nm with
    | some id =>
      have Hi1 := Lib.hid hi1
      rw [hi1] at hl1
      obtain ⟨h1, h2⟩ := Hin1.out id hi1
      have hne : (id : Int) ≠ 0 := by omega
      have hR := sFind_name (st := st) (n := n) (cnt := cnt) (l1 := l1) (l2 := l2) (f := ⟨nm, vl, true⟩) (Or.inl rfl) hi1
      rw [hR]
      clear hR hi1
      simp only [Option.getD_some] at hl1
      go_enter Tryd.func61, Tryd.ntmps61
      go_wp2_with fail
      go_quiet (fail)
      go_wp2_with fail
      refine (idIdx_any b st n cnt id a c _ (by exact C0.out) (by exact C1.out) (by exact C2.out) h1 h2 hn hc).mono ?_
      rintro e w1 ⟨rfl, rfl⟩
      go_wp2_with fail
      go_ret2
      exact ⟨rfl, HB0.out.trans ⟨rfl, rfl, rfl, Nat.le_refl _, fun _ _ => rfl⟩⟩
    | none =>
      rw [hi1] at hl1
      have hR := sFind_none (st := st) (n := n) (cnt := cnt) (l1 := l1) (l2 := l2) (f := ⟨nm, vl, true⟩) (Or.inl rfl) hi1
      rw [hR]
      clear hR hi1
      simp only [Option.getD_none] at hl1
      go_enter Tryd.func61, Tryd.ntmps61
      go_wp2_with fail
      go_quiet (fail)
      go_wp2_with fail
      go_ret2
      exact ⟨rfl, HB0.out.trans ⟨rfl, rfl, rfl, Nat.le_refl _, fun _ _ => rfl⟩⟩
end Go.Proofs.YtjdmaflkafmmpaaDoor
