/-
  Texts of this seat, one behind the other: EmImpl, Run, HD6, LawF, ReadF, EqualF, FromF, DAllow. What each one shows stands at its head. No condition.
-/
import Derived.Test.YtjdmaflkafmmpaaDoorMt3
/-
  The thin package's emitter meets what callEmit asks.
-/
namespace Go.Proofs.YtjdmaflkafmmpaaDoor
open Go.ChangeShapes Go.WideShapes Go.ChangeAt Go.RowKit

theorem infoFld' : (Tryd.prog.info? 26).map (fun i => (i.zero, i.size, i.bytes)) = some (some (.agg #[.string ByteArray.empty, .string ByteArray.empty, .bool false]), 3, 40) := by kernel_rfl
theorem fromField_any (f : HD.Fld) (w : World) : Calls Tryd.prog 20 #[fldV f] w fun e w' => e = .returned (fldV f) ∧ Below w.heap.size w w' := by
  unfold fldV
  go_enter Tryd.func20, Tryd.ntmps20
  go_wp2_with fail
  (try simp only [Exit.inBlock, Exit.then])
  refine bodyPost_ret (v := fldV f) ?_ rfl ?_
  · simp only [results, Tryd.results20]
    go_simp
    rfl
  exact ⟨rfl, ((Below.refl _ _).alloc (Nat.le_refl _) _).alloc (by simp) _⟩

set_option maxHeartbeats 1000000 in
set_option maxRecDepth 100000 in
theorem emOk_impl (B e : Nat) (hBe : B ≤ e) : EmOk B (implEm B e) where
  call := by
    refine ⟨19, .pointer (some ⟨e, 0, none⟩), rfl, fun args w => ?_, ?_⟩
    · simp [callFunc, Tryd.func19]
      rw [if_neg (by decide +kernel), if_neg]
      intro h
      have h2 : Tryd.f19.body.isSome = true := by kernel_rfl
      rw [h] at h2; cases h2
    · intro w l E f hB ⟨v, hr, hown, hne, hE⟩ hl
      obtain ⟨a, cap, rfl⟩ := own_form hown
      have q := hr.cell (i := 0) (by decide)
      have fz := hr.unfrozen 0 none
      have hew := hr.lt
      obtain ⟨i0, hi, hz0, hz1, hzb⟩ := info_parts infoFld'
      have Hr := Lib.hid hr
      have Hown := Lib.hid hown
      have Hne := Lib.hid hne
      have HE := Lib.hid hE
      have Hi := Lib.hid hi
      clear hr hown hne hE hi
      unfold fldV
      have hb1 : Below w.heap.size w (w.alloc (.cells #[.string ⟨f.name.toArray⟩, .string ⟨f.value.toArray⟩, .bool f.sens] 57)) := (Below.refl _ _).alloc (Nat.le_refl _) _
      have q0 : (w.alloc (.cells #[.string ⟨f.name.toArray⟩, .string ⟨f.value.toArray⟩, .bool f.sens] 57)).cell? ⟨w.heap.size, 0, none⟩ = some (.string ⟨f.name.toArray⟩) := (Lib.cell_of_heap (heap_alloc_new w _) 0).trans rfl
      have q1 : (w.alloc (.cells #[.string ⟨f.name.toArray⟩, .string ⟨f.value.toArray⟩, .bool f.sens] 57)).cell? ⟨w.heap.size, 1, none⟩ = some (.string ⟨f.value.toArray⟩) := (Lib.cell_of_heap (heap_alloc_new w _) 1).trans rfl
      have q2 : (w.alloc (.cells #[.string ⟨f.name.toArray⟩, .string ⟨f.value.toArray⟩, .bool f.sens] 57)).cell? ⟨w.heap.size, 2, none⟩ = some (.bool f.sens) := (Lib.cell_of_heap (heap_alloc_new w _) 2).trans rfl
      have qe := (hb1.cell (p := ⟨e, 0, none⟩) hew).trans q
      have HQ := Lib.hid (And.intro qe (And.intro q0 (And.intro q1 q2)))
      have Hb1 := Lib.hid hb1
      clear hb1 q0 q1 q2 qe
      go_enter Tryd.func19, Tryd.ntmps19
      go_wp2_with fail
      refine wp_region_held_drew (S := (fun w' => w'.cell? ⟨w.heap.size, 0, none⟩ = some (.string ⟨f.name.toArray⟩) ∧ w'.cell? ⟨w.heap.size, 1, none⟩ = some (.string ⟨f.value.toArray⟩) ∧ w'.cell? ⟨w.heap.size, 2, none⟩ = some (.bool f.sens))) (by kernel_rfl) ((by exact HQ.out.2)) (fun hHeld => ?_)
      refine takeH 1 (v := ?_) rfl rfl (by kernel_rfl) (by kernel_rfl) (by kernel_rfl) (fun _ _ _ h => h) (Or.inl ⟨by rfl, ?_⟩) (by assumption) ?_
      rotate_left
      · (intro w hSw; (try dsimp only at hSw); go_simp <;> with_reducible rfl)
      simp only [List.setIfInBounds_toArray, List.set_cons_zero, List.set_cons_succ]
      refine wpAnyH_ready (rs := [0, 2]) (by kernel_rfl) (by simp) ?_
      refine AllReadyH.cons rfl (fun K hK => ?_) (AllReadyH.cons rfl (fun K hK => ?_) AllReadyH.nil)
      · have qe := HQ.out.1
        go_simp
        refine hK.out _ _ (by exact HQ.out.2) (fun hHeld => ?_)
        clear hK K qe
        refine wpAnyH_ready (rs := [2]) (by kernel_rfl) (by simp) ?_
        refine AllReadyH.cons rfl (fun K hK => ?_) AllReadyH.nil
        go_simp
        refine (fromField_any f _).mono ?_
        rintro x w2 ⟨rfl, hb2⟩
        have hb2 : Below (w.alloc (.cells #[.string ⟨f.name.toArray⟩, .string ⟨f.value.toArray⟩, .bool f.sens] 57)).heap.size (w.alloc (.cells #[.string ⟨f.name.toArray⟩, .string ⟨f.value.toArray⟩, .bool f.sens] 57)) w2 := ⟨hb2.os, hb2.tape, hb2.output, hb2.size, hb2.block⟩
        have hs1 : (w.alloc (.cells #[.string ⟨f.name.toArray⟩, .string ⟨f.value.toArray⟩, .bool f.sens] 57)).heap.size = w.heap.size + 1 := by simp
        have hcell : ∀ k j u, k < w.heap.size + 1 → (w.alloc (.cells #[.string ⟨f.name.toArray⟩, .string ⟨f.value.toArray⟩, .bool f.sens] 57)).cell? ⟨k, j, none⟩ = some u → w2.cell? ⟨k, j, none⟩ = some u := fun k j u hk h => (hb2.cell (p := ⟨k, j, none⟩) (by rw [hs1]; exact hk)).trans h
        have HQ2 := Lib.hid (And.intro (hcell e 0 _ (by omega) HQ.out.1) (And.intro (hcell w.heap.size 0 _ (by omega) HQ.out.2.1) (And.intro (hcell w.heap.size 1 _ (by omega) HQ.out.2.2.1) (hcell w.heap.size 2 _ (by omega) HQ.out.2.2.2))))
        have hb02 : Below w.heap.size w w2 := Hb1.out.trans (hb2.mono (by omega))
        have hs2 : w.heap.size + 1 ≤ w2.heap.size := by have := hb2.size; omega
        have Hb02 := Lib.hid hb02
        clear hcell hb2 hb02 hs1
        unfold fldV
        go_simp
        refine hK.out _ _ (by exact HQ2.out.2) (fun hHeld => ?_)
        clear hK K
        refine wpAnyH_ready (rs := [3]) (by kernel_rfl) (by simp) ?_
        refine AllReadyH.cons rfl (fun K hK => ?_) AllReadyH.nil
        go_simp
        have hb3 : Below w2.heap.size w2 (w2.alloc (.cells #[.string ⟨f.name.toArray⟩, .string ⟨f.value.toArray⟩, .bool f.sens] 26)) := (Below.refl _ _).alloc (Nat.le_refl _) _
        have hn3 := news_of_new w2 (fCells f) 26
        have hs3 : (w2.alloc (.cells #[.string ⟨f.name.toArray⟩, .string ⟨f.value.toArray⟩, .bool f.sens] 26)).heap.size = w2.heap.size + 1 := by simp
        have hn3 : ∀ (q : Nat) u, (fCells f)[q]? = some u → (w2.alloc (.cells #[.string ⟨f.name.toArray⟩, .string ⟨f.value.toArray⟩, .bool f.sens] 26)).cell? ((⟨w2.heap.size, 0, none⟩ : Addr).add q) = some u := hn3
        generalize w2.alloc (.cells #[.string ⟨f.name.toArray⟩, .string ⟨f.value.toArray⟩, .bool f.sens] 26) = w3 at hb3 hn3 hs3 ⊢
        have hb03 : Below w.heap.size w w3 := Hb02.out.trans (hb3.mono (by omega))
        have hown3 := ownsRow_of_heap Hown.out fun g hg => hb03.block g (Hown.out.lt g hg).2
        have hr3 := Hr.out.of_heap (hb03.block e hew)
        have HQ3 := Lib.hid (And.intro ((hb3.cell (p := ⟨e, 0, none⟩) (by show e < w2.heap.size; omega)).trans HQ2.out.1) (And.intro ((hb3.cell (p := ⟨w.heap.size, 0, none⟩) (by show w.heap.size < w2.heap.size; omega)).trans HQ2.out.2.1) (And.intro ((hb3.cell (p := ⟨w.heap.size, 1, none⟩) (by show w.heap.size < w2.heap.size; omega)).trans HQ2.out.2.2.1) ((hb3.cell (p := ⟨w.heap.size, 2, none⟩) (by show w.heap.size < w2.heap.size; omega)).trans HQ2.out.2.2.2))))
        have Hb03 := Lib.hid hb03
        have Hown3 := Lib.hid hown3
        have Hr3 := Lib.hid hr3
        have Hn3 := Lib.hid hn3
        clear hb3 hb03 hown3 hr3 hn3
        refine hK.out _ _ (by exact HQ3.out.2) (fun hHeld => ?_)
        clear hK K
        refine wpAnyH_ready (rs := [4]) (by kernel_rfl) (by simp) ?_
        refine AllReadyH.cons rfl (fun K hK => ?_) AllReadyH.nil
        refine step_append_own_at rfl 7 rfl _ _ 22 rfl B 26 i0 (.agg #[.string ByteArray.empty, .string ByteArray.empty, .bool false]) 3 40 Tryd.underlying22 Hi.out hz0 hz1 hzb rfl (by decide) (.slice a l.length cap) l.length (flds l) rfl (by exact Hown3.out) ⟨w2.heap.size, 0, none⟩ 1 1 (fCells f) rfl rfl (by exact Hn3.out) (by intro u hu; simp [fCells] at hu; rcases hu with rfl | rfl | rfl <;> rfl) (by unfold maxLen; omega) (by omega) (by omega) ?_
        intro v4 w4 hown4 hgrow4 _ hat4
        obtain ⟨a4, cap4, rfl⟩ := own_form hown4
        have hs34 : w3.heap.size ≤ w4.heap.size := hgrow4.size
        have hke : w4.heap[e]? = w3.heap[e]? := hgrow4.block e (by omega) (fun h => Hne.out h.symm)
        have hkw : w4.heap[w.heap.size]? = w3.heap[w.heap.size]? := hgrow4.block _ (by omega) (fun h => by have := (Hown.out.lt _ h.symm).2; omega)
        have hr4 := Hr3.out.of_heap hke
        have c4 := hr4.cell (i := 0) (by decide)
        have f4 := hr4.unfrozen 0 none
        have HQ4 := Lib.hid (And.intro ((World.cell?_of_block (a := ⟨w.heap.size, 0, none⟩) hkw).trans HQ3.out.2.1) (And.intro ((World.cell?_of_block (a := ⟨w.heap.size, 1, none⟩) hkw).trans HQ3.out.2.2.1) ((World.cell?_of_block (a := ⟨w.heap.size, 2, none⟩) hkw).trans HQ3.out.2.2.2)))
        have hb4 : Upd (fun k => k = e ∨ (Value.slice a l.length cap).ownBlock = some k) w w4 := (Upd.of_below Hb03.out).step (Upd.of_grown hgrow4 fun k h => Or.inr h)
        have hnv : (Value.slice a4 (l.length + 1) cap4).ownBlock ≠ some e := by
          rcases hat4 with h | h
          · rw [h]; exact Hne.out
          · rw [h]; intro h'; have := Option.some.inj h'; omega
        have hEv : ∀ k, (Value.slice a4 (l.length + 1) cap4).ownBlock = some k → E k ∨ w.heap.size ≤ k := fun k hk => by
          rcases hat4 with h | h
          · exact Or.inl ((HE.out k).2 (Or.inr (h ▸ hk)))
          · rw [h] at hk; have := Option.some.inj hk; exact Or.inr (by omega)
        have Hown4 := Lib.hid hown4
        have Hr4 := Lib.hid hr4
        have Hb4 := Lib.hid hb4
        have Hnv := Lib.hid hnv
        have HEv := Lib.hid hEv
        clear hown4 hgrow4 hat4 hke hkw hr4 hb4 hnv hEv
        refine hK.out _ _ (by exact HQ4.out) (fun hHeld => ?_)
        clear hK K
        refine wpAnyH_ready (rs := [5]) (by kernel_rfl) (by simp) ?_
        refine AllReadyH.cons rfl (fun K hK => ?_) AllReadyH.nil
        go_simp
        have hne0 : e ≠ w.heap.size := Nat.ne_of_lt hew
        have hkw : ∀ u, (w4.setCell ⟨e, 0, none⟩ u).heap[w.heap.size]? = w4.heap[w.heap.size]? := fun u => other_set hne0
        refine hK.out _ _ (by exact ⟨(World.cell?_of_block (a := ⟨w.heap.size, 0, none⟩) (hkw (.slice a4 (l.length + 1) cap4))).trans HQ4.out.1, (World.cell?_of_block (a := ⟨w.heap.size, 1, none⟩) (hkw (.slice a4 (l.length + 1) cap4))).trans HQ4.out.2.1, (World.cell?_of_block (a := ⟨w.heap.size, 2, none⟩) (hkw (.slice a4 (l.length + 1) cap4))).trans HQ4.out.2.2⟩) (fun hHeld => ?_)
        clear hK K
        refine wpAnyH_done (by kernel_rfl) ?_ _
        go_wp2_with fail
        go_end0
        refine ⟨rfl, fun k => k = e ∨ (Value.slice a4 (l.length + 1) cap4).ownBlock = some k, ⟨(.slice a4 (l.length + 1) cap4), ?_, ?_, Hnv.out, fun k => Iff.rfl⟩, ?_, ?_⟩
        · exact (Hr4.out.set 0 (.slice a4 (l.length + 1) cap4)).congr fun i hi => by simp [show i = 0 by omega]
        · rw [flds_append, List.length_append]
          refine ownsRow_of_heap ?_ fun g' hg => other_set (fun h => Hnv.out (by rw [hg, h]))
          simpa [flds, fCells] using Hown4.out
        · rintro k (h | h)
          · exact Or.inl ((HE.out k).2 (Or.inl h))
          · exact HEv.out k h
        · refine Upd.setCell (Hb4.out.mono fun k h => (HE.out k).2 h) (a := ⟨e, 0, none⟩) (Or.inl ((HE.out e).2 (Or.inl rfl))) _
      ·
        go_simp
        refine (fromField_any f _).mono ?_
        rintro x w2 ⟨rfl, hb2⟩
        have hb2 : Below (w.alloc (.cells #[.string ⟨f.name.toArray⟩, .string ⟨f.value.toArray⟩, .bool f.sens] 57)).heap.size (w.alloc (.cells #[.string ⟨f.name.toArray⟩, .string ⟨f.value.toArray⟩, .bool f.sens] 57)) w2 := ⟨hb2.os, hb2.tape, hb2.output, hb2.size, hb2.block⟩
        have hs1 : (w.alloc (.cells #[.string ⟨f.name.toArray⟩, .string ⟨f.value.toArray⟩, .bool f.sens] 57)).heap.size = w.heap.size + 1 := by simp
        have hcell : ∀ k j u, k < w.heap.size + 1 → (w.alloc (.cells #[.string ⟨f.name.toArray⟩, .string ⟨f.value.toArray⟩, .bool f.sens] 57)).cell? ⟨k, j, none⟩ = some u → w2.cell? ⟨k, j, none⟩ = some u := fun k j u hk h => (hb2.cell (p := ⟨k, j, none⟩) (by rw [hs1]; exact hk)).trans h
        have HQ2 := Lib.hid (And.intro (hcell e 0 _ (by omega) HQ.out.1) (And.intro (hcell w.heap.size 0 _ (by omega) HQ.out.2.1) (And.intro (hcell w.heap.size 1 _ (by omega) HQ.out.2.2.1) (hcell w.heap.size 2 _ (by omega) HQ.out.2.2.2))))
        have hb02 : Below w.heap.size w w2 := Hb1.out.trans (hb2.mono (by omega))
        have hs2 : w.heap.size + 1 ≤ w2.heap.size := by have := hb2.size; omega
        have Hb02 := Lib.hid hb02
        clear hcell hb2 hb02 hs1
        unfold fldV
        go_simp
        refine hK.out _ _ (by exact HQ2.out.2) (fun hHeld => ?_)
        clear hK K
        refine wpAnyH_ready (rs := [0, 3]) (by kernel_rfl) (by simp) ?_
        refine AllReadyH.cons rfl (fun K hK => ?_) (AllReadyH.cons rfl (fun K hK => ?_) AllReadyH.nil)
        · have qe := HQ2.out.1
          go_simp
          refine hK.out _ _ (by exact HQ2.out.2) (fun hHeld => ?_)
          clear hK K qe
          refine wpAnyH_ready (rs := [3]) (by kernel_rfl) (by simp) ?_
          refine AllReadyH.cons rfl (fun K hK => ?_) AllReadyH.nil
          go_simp
          have hb3 : Below w2.heap.size w2 (w2.alloc (.cells #[.string ⟨f.name.toArray⟩, .string ⟨f.value.toArray⟩, .bool f.sens] 26)) := (Below.refl _ _).alloc (Nat.le_refl _) _
          have hn3 := news_of_new w2 (fCells f) 26
          have hs3 : (w2.alloc (.cells #[.string ⟨f.name.toArray⟩, .string ⟨f.value.toArray⟩, .bool f.sens] 26)).heap.size = w2.heap.size + 1 := by simp
          have hn3 : ∀ (q : Nat) u, (fCells f)[q]? = some u → (w2.alloc (.cells #[.string ⟨f.name.toArray⟩, .string ⟨f.value.toArray⟩, .bool f.sens] 26)).cell? ((⟨w2.heap.size, 0, none⟩ : Addr).add q) = some u := hn3
          generalize w2.alloc (.cells #[.string ⟨f.name.toArray⟩, .string ⟨f.value.toArray⟩, .bool f.sens] 26) = w3 at hb3 hn3 hs3 ⊢
          have hb03 : Below w.heap.size w w3 := Hb02.out.trans (hb3.mono (by omega))
          have hown3 := ownsRow_of_heap Hown.out fun g hg => hb03.block g (Hown.out.lt g hg).2
          have hr3 := Hr.out.of_heap (hb03.block e hew)
          have HQ3 := Lib.hid (And.intro ((hb3.cell (p := ⟨e, 0, none⟩) (by show e < w2.heap.size; omega)).trans HQ2.out.1) (And.intro ((hb3.cell (p := ⟨w.heap.size, 0, none⟩) (by show w.heap.size < w2.heap.size; omega)).trans HQ2.out.2.1) (And.intro ((hb3.cell (p := ⟨w.heap.size, 1, none⟩) (by show w.heap.size < w2.heap.size; omega)).trans HQ2.out.2.2.1) ((hb3.cell (p := ⟨w.heap.size, 2, none⟩) (by show w.heap.size < w2.heap.size; omega)).trans HQ2.out.2.2.2))))
          have Hb03 := Lib.hid hb03
          have Hown3 := Lib.hid hown3
          have Hr3 := Lib.hid hr3
          have Hn3 := Lib.hid hn3
          clear hb3 hb03 hown3 hr3 hn3
          refine hK.out _ _ (by exact HQ3.out.2) (fun hHeld => ?_)
          clear hK K
          refine wpAnyH_ready (rs := [4]) (by kernel_rfl) (by simp) ?_
          refine AllReadyH.cons rfl (fun K hK => ?_) AllReadyH.nil
          refine step_append_own_at rfl 7 rfl _ _ 22 rfl B 26 i0 (.agg #[.string ByteArray.empty, .string ByteArray.empty, .bool false]) 3 40 Tryd.underlying22 Hi.out hz0 hz1 hzb rfl (by decide) (.slice a l.length cap) l.length (flds l) rfl (by exact Hown3.out) ⟨w2.heap.size, 0, none⟩ 1 1 (fCells f) rfl rfl (by exact Hn3.out) (by intro u hu; simp [fCells] at hu; rcases hu with rfl | rfl | rfl <;> rfl) (by unfold maxLen; omega) (by omega) (by omega) ?_
          intro v4 w4 hown4 hgrow4 _ hat4
          obtain ⟨a4, cap4, rfl⟩ := own_form hown4
          have hs34 : w3.heap.size ≤ w4.heap.size := hgrow4.size
          have hke : w4.heap[e]? = w3.heap[e]? := hgrow4.block e (by omega) (fun h => Hne.out h.symm)
          have hkw : w4.heap[w.heap.size]? = w3.heap[w.heap.size]? := hgrow4.block _ (by omega) (fun h => by have := (Hown.out.lt _ h.symm).2; omega)
          have hr4 := Hr3.out.of_heap hke
          have c4 := hr4.cell (i := 0) (by decide)
          have f4 := hr4.unfrozen 0 none
          have HQ4 := Lib.hid (And.intro ((World.cell?_of_block (a := ⟨w.heap.size, 0, none⟩) hkw).trans HQ3.out.2.1) (And.intro ((World.cell?_of_block (a := ⟨w.heap.size, 1, none⟩) hkw).trans HQ3.out.2.2.1) ((World.cell?_of_block (a := ⟨w.heap.size, 2, none⟩) hkw).trans HQ3.out.2.2.2)))
          have hb4 : Upd (fun k => k = e ∨ (Value.slice a l.length cap).ownBlock = some k) w w4 := (Upd.of_below Hb03.out).step (Upd.of_grown hgrow4 fun k h => Or.inr h)
          have hnv : (Value.slice a4 (l.length + 1) cap4).ownBlock ≠ some e := by
            rcases hat4 with h | h
            · rw [h]; exact Hne.out
            · rw [h]; intro h'; have := Option.some.inj h'; omega
          have hEv : ∀ k, (Value.slice a4 (l.length + 1) cap4).ownBlock = some k → E k ∨ w.heap.size ≤ k := fun k hk => by
            rcases hat4 with h | h
            · exact Or.inl ((HE.out k).2 (Or.inr (h ▸ hk)))
            · rw [h] at hk; have := Option.some.inj hk; exact Or.inr (by omega)
          have Hown4 := Lib.hid hown4
          have Hr4 := Lib.hid hr4
          have Hb4 := Lib.hid hb4
          have Hnv := Lib.hid hnv
          have HEv := Lib.hid hEv
          clear hown4 hgrow4 hat4 hke hkw hr4 hb4 hnv hEv
          refine hK.out _ _ (by exact HQ4.out) (fun hHeld => ?_)
          clear hK K
          refine wpAnyH_ready (rs := [5]) (by kernel_rfl) (by simp) ?_
          refine AllReadyH.cons rfl (fun K hK => ?_) AllReadyH.nil
          go_simp
          have hne0 : e ≠ w.heap.size := Nat.ne_of_lt hew
          have hkw : ∀ u, (w4.setCell ⟨e, 0, none⟩ u).heap[w.heap.size]? = w4.heap[w.heap.size]? := fun u => other_set hne0
          refine hK.out _ _ (by exact ⟨(World.cell?_of_block (a := ⟨w.heap.size, 0, none⟩) (hkw (.slice a4 (l.length + 1) cap4))).trans HQ4.out.1, (World.cell?_of_block (a := ⟨w.heap.size, 1, none⟩) (hkw (.slice a4 (l.length + 1) cap4))).trans HQ4.out.2.1, (World.cell?_of_block (a := ⟨w.heap.size, 2, none⟩) (hkw (.slice a4 (l.length + 1) cap4))).trans HQ4.out.2.2⟩) (fun hHeld => ?_)
          clear hK K
          refine wpAnyH_done (by kernel_rfl) ?_ _
          go_wp2_with fail
          go_end0
          refine ⟨rfl, fun k => k = e ∨ (Value.slice a4 (l.length + 1) cap4).ownBlock = some k, ⟨(.slice a4 (l.length + 1) cap4), ?_, ?_, Hnv.out, fun k => Iff.rfl⟩, ?_, ?_⟩
          · exact (Hr4.out.set 0 (.slice a4 (l.length + 1) cap4)).congr fun i hi => by simp [show i = 0 by omega]
          · rw [flds_append, List.length_append]
            refine ownsRow_of_heap ?_ fun g' hg => other_set (fun h => Hnv.out (by rw [hg, h]))
            simpa [flds, fCells] using Hown4.out
          · rintro k (h | h)
            · exact Or.inl ((HE.out k).2 (Or.inl h))
            · exact HEv.out k h
          · refine Upd.setCell (Hb4.out.mono fun k h => (HE.out k).2 h) (a := ⟨e, 0, none⟩) (Or.inl ((HE.out e).2 (Or.inl rfl))) _
        ·
          go_simp
          have hb3 : Below w2.heap.size w2 (w2.alloc (.cells #[.string ⟨f.name.toArray⟩, .string ⟨f.value.toArray⟩, .bool f.sens] 26)) := (Below.refl _ _).alloc (Nat.le_refl _) _
          have hn3 := news_of_new w2 (fCells f) 26
          have hs3 : (w2.alloc (.cells #[.string ⟨f.name.toArray⟩, .string ⟨f.value.toArray⟩, .bool f.sens] 26)).heap.size = w2.heap.size + 1 := by simp
          have hn3 : ∀ (q : Nat) u, (fCells f)[q]? = some u → (w2.alloc (.cells #[.string ⟨f.name.toArray⟩, .string ⟨f.value.toArray⟩, .bool f.sens] 26)).cell? ((⟨w2.heap.size, 0, none⟩ : Addr).add q) = some u := hn3
          generalize w2.alloc (.cells #[.string ⟨f.name.toArray⟩, .string ⟨f.value.toArray⟩, .bool f.sens] 26) = w3 at hb3 hn3 hs3 ⊢
          have hb03 : Below w.heap.size w w3 := Hb02.out.trans (hb3.mono (by omega))
          have hown3 := ownsRow_of_heap Hown.out fun g hg => hb03.block g (Hown.out.lt g hg).2
          have hr3 := Hr.out.of_heap (hb03.block e hew)
          have HQ3 := Lib.hid (And.intro ((hb3.cell (p := ⟨e, 0, none⟩) (by show e < w2.heap.size; omega)).trans HQ2.out.1) (And.intro ((hb3.cell (p := ⟨w.heap.size, 0, none⟩) (by show w.heap.size < w2.heap.size; omega)).trans HQ2.out.2.1) (And.intro ((hb3.cell (p := ⟨w.heap.size, 1, none⟩) (by show w.heap.size < w2.heap.size; omega)).trans HQ2.out.2.2.1) ((hb3.cell (p := ⟨w.heap.size, 2, none⟩) (by show w.heap.size < w2.heap.size; omega)).trans HQ2.out.2.2.2))))
          have Hb03 := Lib.hid hb03
          have Hown3 := Lib.hid hown3
          have Hr3 := Lib.hid hr3
          have Hn3 := Lib.hid hn3
          clear hb3 hb03 hown3 hr3 hn3
          refine hK.out _ _ (by exact HQ3.out.2) (fun hHeld => ?_)
          clear hK K
          refine wpAnyH_ready (rs := [0]) (by kernel_rfl) (by simp) ?_
          refine AllReadyH.cons rfl (fun K hK => ?_) AllReadyH.nil
          have qe := HQ3.out.1
          go_simp
          refine hK.out _ _ (by exact HQ3.out.2) (fun hHeld => ?_)
          clear hK K qe
          refine wpAnyH_ready (rs := [4]) (by kernel_rfl) (by simp) ?_
          refine AllReadyH.cons rfl (fun K hK => ?_) AllReadyH.nil
          refine step_append_own_at rfl 7 rfl _ _ 22 rfl B 26 i0 (.agg #[.string ByteArray.empty, .string ByteArray.empty, .bool false]) 3 40 Tryd.underlying22 Hi.out hz0 hz1 hzb rfl (by decide) (.slice a l.length cap) l.length (flds l) rfl (by exact Hown3.out) ⟨w2.heap.size, 0, none⟩ 1 1 (fCells f) rfl rfl (by exact Hn3.out) (by intro u hu; simp [fCells] at hu; rcases hu with rfl | rfl | rfl <;> rfl) (by unfold maxLen; omega) (by omega) (by omega) ?_
          intro v4 w4 hown4 hgrow4 _ hat4
          obtain ⟨a4, cap4, rfl⟩ := own_form hown4
          have hs34 : w3.heap.size ≤ w4.heap.size := hgrow4.size
          have hke : w4.heap[e]? = w3.heap[e]? := hgrow4.block e (by omega) (fun h => Hne.out h.symm)
          have hkw : w4.heap[w.heap.size]? = w3.heap[w.heap.size]? := hgrow4.block _ (by omega) (fun h => by have := (Hown.out.lt _ h.symm).2; omega)
          have hr4 := Hr3.out.of_heap hke
          have c4 := hr4.cell (i := 0) (by decide)
          have f4 := hr4.unfrozen 0 none
          have HQ4 := Lib.hid (And.intro ((World.cell?_of_block (a := ⟨w.heap.size, 0, none⟩) hkw).trans HQ3.out.2.1) (And.intro ((World.cell?_of_block (a := ⟨w.heap.size, 1, none⟩) hkw).trans HQ3.out.2.2.1) ((World.cell?_of_block (a := ⟨w.heap.size, 2, none⟩) hkw).trans HQ3.out.2.2.2)))
          have hb4 : Upd (fun k => k = e ∨ (Value.slice a l.length cap).ownBlock = some k) w w4 := (Upd.of_below Hb03.out).step (Upd.of_grown hgrow4 fun k h => Or.inr h)
          have hnv : (Value.slice a4 (l.length + 1) cap4).ownBlock ≠ some e := by
            rcases hat4 with h | h
            · rw [h]; exact Hne.out
            · rw [h]; intro h'; have := Option.some.inj h'; omega
          have hEv : ∀ k, (Value.slice a4 (l.length + 1) cap4).ownBlock = some k → E k ∨ w.heap.size ≤ k := fun k hk => by
            rcases hat4 with h | h
            · exact Or.inl ((HE.out k).2 (Or.inr (h ▸ hk)))
            · rw [h] at hk; have := Option.some.inj hk; exact Or.inr (by omega)
          have Hown4 := Lib.hid hown4
          have Hr4 := Lib.hid hr4
          have Hb4 := Lib.hid hb4
          have Hnv := Lib.hid hnv
          have HEv := Lib.hid hEv
          clear hown4 hgrow4 hat4 hke hkw hr4 hb4 hnv hEv
          refine hK.out _ _ (by exact HQ4.out) (fun hHeld => ?_)
          clear hK K
          refine wpAnyH_ready (rs := [5]) (by kernel_rfl) (by simp) ?_
          refine AllReadyH.cons rfl (fun K hK => ?_) AllReadyH.nil
          go_simp
          have hne0 : e ≠ w.heap.size := Nat.ne_of_lt hew
          have hkw : ∀ u, (w4.setCell ⟨e, 0, none⟩ u).heap[w.heap.size]? = w4.heap[w.heap.size]? := fun u => other_set hne0
          refine hK.out _ _ (by exact ⟨(World.cell?_of_block (a := ⟨w.heap.size, 0, none⟩) (hkw (.slice a4 (l.length + 1) cap4))).trans HQ4.out.1, (World.cell?_of_block (a := ⟨w.heap.size, 1, none⟩) (hkw (.slice a4 (l.length + 1) cap4))).trans HQ4.out.2.1, (World.cell?_of_block (a := ⟨w.heap.size, 2, none⟩) (hkw (.slice a4 (l.length + 1) cap4))).trans HQ4.out.2.2⟩) (fun hHeld => ?_)
          clear hK K
          refine wpAnyH_done (by kernel_rfl) ?_ _
          go_wp2_with fail
          go_end0
          refine ⟨rfl, fun k => k = e ∨ (Value.slice a4 (l.length + 1) cap4).ownBlock = some k, ⟨(.slice a4 (l.length + 1) cap4), ?_, ?_, Hnv.out, fun k => Iff.rfl⟩, ?_, ?_⟩
          · exact (Hr4.out.set 0 (.slice a4 (l.length + 1) cap4)).congr fun i hi => by simp [show i = 0 by omega]
          · rw [flds_append, List.length_append]
            refine ownsRow_of_heap ?_ fun g' hg => other_set (fun h => Hnv.out (by rw [hg, h]))
            simpa [flds, fCells] using Hown4.out
          · rintro k (h | h)
            · exact Or.inl ((HE.out k).2 (Or.inl h))
            · exact HEv.out k h
          · refine Upd.setCell (Hb4.out.mono fun k h => (HE.out k).2 h) (a := ⟨e, 0, none⟩) (Or.inl ((HE.out e).2 (Or.inl rfl))) _
end Go.Proofs.YtjdmaflkafmmpaaDoor
/-
  The contract of impl.Decode, over contracts for the steps.
-/
namespace Go.Proofs.YtjdmaflkafmmpaaDoor
open Go.ChangeShapes Go.WideShapes Go.ChangeAt Go.RowKit

theorem infoDA : (Tryd.prog.info? 41).map (fun i => (i.zero, i.size, i.bytes)) = some (some (.agg #[.slice none 0 0, .slice none 0 0, .int .i64 0, .bool false, .int .i64 0, .int .i64 0]), 6, 80) := by kernel_rfl
theorem FRow.form {w : World} {X : Nat → Prop} {v : Value} {l : List HD.Fld} (h : FRow w X v l) : ∃ a n c, v = .slice a n c := by
  rcases h with ⟨h, -⟩ | ⟨g, cap, h, -⟩
  · exact ⟨_, _, _, h⟩
  · exact ⟨_, _, _, h⟩

/-- What stands in memory when the loop of Decode comes round. -/
structure RInv (w wr : World) (aI aN aL : Addr) (n T : Nat) (A : List HD.Ans) (cs : List HD.Cmd) (k : Nat) (σ : HD.DS) (az : List HD.Ans) (ov : Value) (vs : List Value) (l : List HD.Fld) (p : DP) (X : Nat → Prop) : Prop where
  res : A = az ++ HD.drun σ (cs.drop k)
  ok : RunOk w.heap.size (w.heap.size + 1) (implEm w.heap.size w.heap.size) aI aN aL σ (cs.drop k)
  len : az.length = k
  live : Live w.heap.size wr (w.heap.size + 1) (implEm w.heap.size w.heap.size) σ.st l p
  save : Save w.heap.size wr (w.heap.size + 1) p.f σ.save
  out : wr.ownsRow w.heap.size 41 6 ov k vs
  at_ : ∀ i a, az[i]? = some a → AnsAt wr X vs i a
  low : ∀ g, X g → g < wr.heap.size ∧ w.heap.size ≤ g ∧ ¬ tabOwn (w.heap.size + 1) p.ev p.m1 p.m2 g ∧ g ≠ w.heap.size ∧ ¬ IsU8 wr g
  apart : ∀ g, ov.ownBlock = some g → ¬ X g ∧ ¬ p.own (w.heap.size + 1) g
  below : Below w.heap.size w wr
  num : p.cnt + σ.st.ents.length + σ.save.length + lens (cs.drop k) ≤ T

/-- What Decode hands back. -/
def RunEnds (w : World) (A : List HD.Ans) (e : Ending) (w' : World) : Prop := ∃ ov vs X, e = .returned ov ∧ w'.ownsRow w.heap.size 41 6 ov A.length vs ∧ (∀ i a, A[i]? = some a → AnsAt w' X vs i a) ∧ (∀ g, X g → g < w'.heap.size ∧ w.heap.size ≤ g ∧ ¬ IsU8 w' g) ∧ (∀ g, ov.ownBlock = some g → ¬ X g) ∧ Below w.heap.size w w'

set_option maxHeartbeats 2000000 in
set_option maxRecDepth 100000 in
theorem run_any (w : World) (size : Nat) (aI aN aL : Addr) (gs os cap : Nat) (cs : List HD.Cmd) (bs : List Value) (hs : size ≤ 2 ^ 31)
    (hE : Env w.heap.size w aI aN aL) (hm : StepsMem w gs os cs bs) (_hcap : cap ≤ maxLen) (hn : cs.length ≤ cap) (hn40 : cs.length ≤ 2 ^ 30)
    (hok : RunOk w.heap.size (w.heap.size + 1) (implEm w.heap.size w.heap.size) aI aN aL ⟨⟨[], size, size, true, true⟩, []⟩ cs) (hT : lens cs ≤ 2 ^ 40) :
    Calls Tryd.prog 9 #[.int .i64 (size : Nat), .slice (some ⟨gs, os, none⟩) cs.length cap] w (RunEnds w (HD.drun ⟨⟨[], size, size, true, true⟩, []⟩ cs)) := by
  obtain ⟨A, hA⟩ : ∃ A, A = HD.drun ⟨⟨[], size, size, true, true⟩, []⟩ cs := ⟨_, rfl⟩
  rw [← hA]
  obtain ⟨n, hnn⟩ : ∃ n, cs.length = n := ⟨_, rfl⟩
  have hmf : ∀ (fn : Fn) (first cap : Array Value) (w : World), (Instr.makeFunc fn first cap).run Tryd.prog w = .ok (.func fn first cap) w := fun _ _ _ _ => rfl
  have hsI : IntKind.u32.wrap (size : Int) = (size : Int) := by simp only [IntKind.wrap, IntKind.bits, IntKind.signed]; simp; omega
  unfold maxLen at _hcap
  rw [hnn] at hn hn40 ⊢
  have HA := Lib.hid hA
  have HE := Lib.hid hE
  have HM := Lib.hid hm
  have Hok := Lib.hid hok
  have HT := Lib.hid hT
  have Hnn := Lib.hid hnn
  clear hA hE hm hok hT hnn
  go_enter Tryd.func9, Tryd.ntmps9
  go_wp2_with fail
  refine (newDecoder_any w.heap.size size (.func 19) (.pointer (some ⟨w.heap.size, 0, none⟩)) _ (by simp) (by omega)).mono ?_
  rintro e w1 ⟨rfl, f, ev, m1, m2, hM, h8, h11, h12, h13, h14, hev, hm1, hm2, hb1⟩
  have hs1 : (w.alloc (.cells #[.slice none 0 0] 22)).heap.size = w.heap.size + 1 := by simp
  rw [hs1] at hM hm1 hm2
  have hI : RInv w w1 aI aN aL n (lens cs) A cs 0 ⟨⟨[], size, size, true, true⟩, []⟩ [] (.slice none 0 0) [] [] ⟨f, 0, ev, m1, m2, [], [], fun k => k = w.heap.size⟩ (fun _ => False) := by
    have hr0 : Row (w.alloc (.cells #[.slice none 0 0] 22)) w.heap.size 1 (fun _ => .slice none 0 0) := Row.new w _ (by decide) rfl (fun i hi => by simp [show i = 0 by omega])
    refine ⟨HA.out, Hok.out, rfl, ⟨hM, ⟨.slice none 0 0, hr0.below hb1 (by simp), World.ownsRow_nil _ _ _ _, by simp [Value.ownBlock], fun k => by simp [Value.ownBlock]⟩, fun k h => Nat.le_of_eq h.symm, h8, ?_, ⟨by simp [HD.tsize], hs, hs, fun e h => by cases h⟩⟩, ⟨?_, ?_, h13, 0, h14⟩, World.ownsRow_nil _ _ _ _, fun i a h => by simp at h, fun g h => h.elim, fun g h => by simp [Value.ownBlock] at h,
      (((Below.refl _ w).alloc (Nat.le_refl _) _).trans (hb1.mono (by simp))), by simp⟩
    · rintro k (rfl | h | rfl | rfl) hk
      · omega
      · rw [hev] at h; cases h
      · omega
      · omega
    · show w1.ownsRow _ _ _ (f 12) _ _
      rw [h12]; exact World.ownsRow_nil _ _ _ _
    · show (f 12).ownBlock ≠ _
      rw [h12]; simp [Value.ownBlock]
  have HI := Lib.hid hI
  have Hs1 := Lib.hid hs1
  clear hM h8 h11 h12 h13 h14 hev hm1 hm2 hb1 hI
  go_wp2_with fail
  go_loopw [7, 17] (fun ov i wr => ∃ (k : Nat) (σ : HD.DS) (az : List HD.Ans) (vs : List Value) (l : List HD.Fld) (p : DP) (X : Nat → Prop), k ≤ n ∧ i = .int .i64 (k : Nat) ∧ RInv w wr aI aN aL n (lens cs) A cs k σ az ov vs l p X) (fun _ i _ => n - (intOf i).toNat)
  case atStart => exact ⟨0, _, _, _, _, _, _, Nat.zero_le _, rfl, HI.out⟩
  case round =>
    obtain ⟨k, σ, az, vs, l, p, X, hk, rfl, hI1⟩ := hrel
    rcases Nat.lt_or_ge k n with hlt | hge
    · have hkc : k < cs.length := by rw [Hnn.out]; exact hlt
      have hkb : k < bs.length := by rw [HM.out.len]; exact hkc
      obtain ⟨c, hc⟩ : ∃ c, c = cs[k] := ⟨_, rfl⟩
      obtain ⟨b, hb⟩ : ∃ b, b = bs[k] := ⟨_, rfl⟩
      have hkN : decide (k < n) = true := by simpa using hlt
      have hgl : gs < w.heap.size := by
        have := HM.out.cell k hkc hkb 0 _ rfl
        exact World.block_lt_of_cell? w _ this
      have hcell : ∀ j v, (cmdCells c b)[j]? = some v → wr.cell? ⟨gs, os + k * 4 + j, none⟩ = some v := fun j v hv => (hI1.below.cell (p := ⟨gs, os + k * 4 + j, none⟩) hgl).trans (HM.out.cell k hkc hkb j v (by rw [← hc, ← hb]; exact hv))
      have q0 := hcell 0 _ rfl
      have q1 := hcell 1 _ rfl
      have q2 := hcell 2 _ rfl
      have q3 := hcell 3 _ rfl
      rw [Nat.add_zero] at q0
      obtain ⟨ev, hre, hoe, hne, hEe⟩ := hI1.live.em
      obtain ⟨sa, lb, cb, hbs⟩ : ∃ sa lb cb, b = .slice sa lb cb := by
        have h := (HM.out.val k hkc hkb).2.2
        rw [← hb] at h
        rcases h with ⟨-, h⟩ | ⟨a, cap, h, -⟩
        · exact ⟨_, _, _, h⟩
        · exact ⟨_, _, _, h⟩
      rw [hbs] at q1
      obtain ⟨ea, ec, hev⟩ := own_form hoe
      rw [hev] at hre
      have qe := hre.cell (i := 0) (by decide)
      have Hbs := Lib.hid hbs
      have hEE := (hEe w.heap.size).2 (Or.inl rfl)
      clear hbs hev
      have qf := hre.unfrozen 0 none
      have HI1 := Lib.hid hI1
      have Hc := Lib.hid hc
      have Hb := Lib.hid hb
      obtain ⟨kc, hkc0⟩ : ∃ kc, kc = kindOf c := ⟨_, rfl⟩
      obtain ⟨sc, hsc0⟩ : ∃ sc, sc = sizeOfC c := ⟨_, rfl⟩
      obtain ⟨fc, hfc0⟩ : ∃ fc, fc = flagOf c := ⟨_, rfl⟩
      rw [← hkc0] at q0
      rw [← hsc0] at q2
      rw [← hfc0] at q3
      have Hkc := Lib.hid hkc0
      have Hsc := Lib.hid hsc0
      have Hfc := Lib.hid hfc0
      have hlow : w.heap.size < wr.heap.size := hre.lt
      clear hI1 hc hb hkc0 hsc0 hfc0 hcell hre hoe hne hEe
      have hdrop : cs.drop k = c :: cs.drop (k + 1) := by rw [Hc.out]; exact List.drop_eq_getElem_cons hkc
      have hok1 := HI1.out.ok
      rw [hdrop] at hok1
      obtain ⟨hcmd, hok2⟩ := hok1
      have hcv : CmdV w c b := by rw [Hc.out, Hb.out]; exact HM.out.val k hkc hkb
      have Hcmd := Lib.hid hcmd
      have Hok2 := Lib.hid hok2
      have Hcv := Lib.hid hcv
      have Hdrop := Lib.hid hdrop
      obtain ⟨i0, hi, hz0, hz1, hzb⟩ := info_parts infoDA
      clear hcmd hok2 hcv hdrop
      go_wp2_with fail
      have hl2 : Live w.heap.size ((wr.setCell ⟨w.heap.size, 0, none⟩ (.slice none 0 0)).alloc (.cells #[.int .i64 kc, .slice sa lb cb, .int .i64 sc, .bool fc] 38)) (w.heap.size + 1) (implEm w.heap.size w.heap.size) σ.st [] { p with E := fun k => k = w.heap.size } :=
        (implEm_reset HI1.out.live (Nat.le_refl _)).below ((Below.refl _ _).alloc (Nat.le_refl _) _)
      have hsz2 : ((wr.setCell ⟨w.heap.size, 0, none⟩ (.slice none 0 0)).alloc (.cells #[.int .i64 kc, .slice sa lb cb, .int .i64 sc, .bool fc] 38)).heap.size = wr.heap.size + 1 := by simp
      have hkk2 : ∀ g, g < wr.heap.size → g ≠ w.heap.size → ((wr.setCell ⟨w.heap.size, 0, none⟩ (.slice none 0 0)).alloc (.cells #[.int .i64 kc, .slice sa lb cb, .int .i64 sc, .bool fc] 38)).heap[g]? = wr.heap[g]? := fun g hg hne =>
        (Below.heap_alloc _ _ _ (by simpa using hg)).trans (other_set (Ne.symm hne))
      have hb2 : Below w.heap.size w ((wr.setCell ⟨w.heap.size, 0, none⟩ (.slice none 0 0)).alloc (.cells #[.int .i64 kc, .slice sa lb cb, .int .i64 sc, .bool fc] 38)) :=
        (((HI1.out.below.setCell (by exact Nat.le_refl _) _)).alloc (Nat.le_of_lt (by simpa using hlow)) _)
      have hs2 : Save w.heap.size ((wr.setCell ⟨w.heap.size, 0, none⟩ (.slice none 0 0)).alloc (.cells #[.int .i64 kc, .slice sa lb cb, .int .i64 sc, .bool fc] 38)) (w.heap.size + 1) p.f σ.save :=
        HI1.out.save.kept rfl rfl rfl (fun g hg => hkk2 g (HI1.out.save.u8 hg).lt (fun e => HI1.out.live.kind (HI1.out.save.u8 hg) (Or.inr (e ▸ hEE))))
      have hcv2 : CmdV ((wr.setCell ⟨w.heap.size, 0, none⟩ (.slice none 0 0)).alloc (.cells #[.int .i64 kc, .slice sa lb cb, .int .i64 sc, .bool fc] 38)) c b :=
        ⟨Hcv.out.1, Hcv.out.2.1, Hcv.out.2.2.imp id fun ⟨a, cap, e, hb, ht⟩ => ⟨a, cap, e, fun q u hu => (hb2.cell (World.block_lt_of_cell? w _ (hb q u hu))).trans (hb q u hu), ht⟩⟩
      have hnum : p.cnt + σ.st.ents.length + σ.save.length + c.len + lens (cs.drop (k + 1)) ≤ lens cs := by
        have := HI1.out.num
        rw [Hdrop.out] at this
        simp only [lens, List.map_cons, List.sum_cons] at this ⊢
        omega
      have harg : (cmdCells c b).toArray = #[.int .i64 kc, .slice sa lb cb, .int .i64 sc, .bool fc] := by rw [Hkc.out, Hsc.out, Hfc.out, Hbs.out]; rfl
      have hcall := Hcmd.out _ [] { p with E := fun k => k = w.heap.size } b hl2 (HE.out.below hb2) hs2 hcv2 (by have := HT.out; show p.cnt + _ + _ + _ < _; omega) (by have := HT.out; simp only [List.length_nil]; omega)
      rw [harg] at hcall
      have Hb2 := Lib.hid hb2
      have Hnum := Lib.hid hnum
      clear hl2 hs2 hcv2 hnum harg hb2
      refine hcall.mono ?_
      clear hcall
      obtain ⟨r, hr⟩ : ∃ r, r = HD.dstep σ c := ⟨_, rfl⟩
      rw [← hr]
      rintro e w3 ⟨p', lv, nn, rfl, hfr, hl3, hs3, ho3, hk3, hn3⟩
      obtain ⟨la, ll, lc, rfl⟩ := hfr.form
      obtain ⟨ev3, hre3, hoe3, hne3, hEe3⟩ := hl3.em
      obtain ⟨ea3, ec3, rfl⟩ := own_form hoe3
      rw [List.nil_append] at hoe3 hre3 hEe3 hne3
      obtain ⟨on, hon⟩ : ∃ on, on = r.2.out.length := ⟨_, rfl⟩
      rw [← hon] at hoe3 hre3 hEe3 hne3
      have qe3 := hre3.cell (i := 0) (by decide)
      have He3 := hre3.lt
      obtain ⟨rf, hrf⟩ : ∃ x, x = r.2.flag := ⟨_, rfl⟩
      obtain ⟨rc, hrc⟩ : ∃ x, x = HD.code r.2.err := ⟨_, rfl⟩
      obtain ⟨ri, hri⟩ : ∃ x, x = HD.idx r.2.err := ⟨_, rfl⟩
      simp only [ansCells]
      rw [← hrf, ← hrc, ← hri]
      have Hr := Lib.hid hr
      have Hfr := Lib.hid hfr
      have Hl3 := Lib.hid hl3
      have Hs3 := Lib.hid hs3
      have Ho3 := Lib.hid ho3
      have Hk3 := Lib.hid hk3
      have Hn3 := Lib.hid hn3
      have Hoe3 := Lib.hid hoe3
      have Hre3 := Lib.hid hre3
      have HEe3 := Lib.hid hEe3
      have Hne3 := Lib.hid hne3
      have Hon := Lib.hid hon
      have Hrf := Lib.hid hrf
      have Hrc := Lib.hid hrc
      have Hri := Lib.hid hri
      have Hhi := Lib.hid hi
      have Hhz0 := Lib.hid hz0
      have Hhz1 := Lib.hid hz1
      have Hhzb := Lib.hid hzb
      clear q0 q1 q2 q3 qe qf hr hfr hl3 hs3 ho3 hk3 hn3 hoe3 hre3 hEe3 hne3 hon hrf hrc hri hi hz0 hz1 hzb
      obtain ⟨W4, hW4⟩ : ∃ W4, W4 = (w3.alloc (.cells #[.slice ea3 on ec3, .slice la ll lc, .int .i64 nn, .bool rf, .int .i64 rc, .int .i64 ri] 41)).alloc (.cells #[.slice ea3 on ec3, .slice la ll lc, .int .i64 nn, .bool rf, .int .i64 rc, .int .i64 ri] 41) := ⟨_, rfl⟩
      have hs4 : W4.heap.size = w3.heap.size + 2 := by rw [hW4]; simp
      have hb4 : Below w3.heap.size w3 W4 := by rw [hW4]; exact ((Below.refl _ _).alloc (Nat.le_refl _) _).alloc (by simp) _
      have hn4 : W4.heap[w3.heap.size + 1]? = some (.cells #[.slice ea3 on ec3, .slice la ll lc, .int .i64 nn, .bool rf, .int .i64 rc, .int .i64 ri] 41 (0, 0)) := by
        have h := heap_alloc_new (w3.alloc (.cells #[.slice ea3 on ec3, .slice la ll lc, .int .i64 nn, .bool rf, .int .i64 rc, .int .i64 ri] 41)) (.cells #[.slice ea3 on ec3, .slice la ll lc, .int .i64 nn, .bool rf, .int .i64 rc, .int .i64 ri] 41)
        rw [show (w3.alloc (.cells #[.slice ea3 on ec3, .slice la ll lc, .int .i64 nn, .bool rf, .int .i64 rc, .int .i64 ri] 41)).heap.size = w3.heap.size + 1 by simp] at h
        rw [hW4]; exact h
      have HW4 := Lib.hid hW4
      have Hb4 := Lib.hid hb4
      have Hn4 := Lib.hid hn4
      have Hs4 := Lib.hid hs4
      have hog : ∀ g, u7.ownBlock = some g → W4.heap[g]? = wr.heap[g]? := fun g hg => by
        have hgl := (HI1.out.out.lt g hg).2
        have hne : g ≠ w.heap.size := fun e => (HI1.out.apart g hg).2 (Or.inr (e ▸ hEE))
        have hu : ¬ IsU8 wr g := by
          obtain ⟨c0, fz0, h0⟩ := Lib.ownsRow_kind HI1.out.out g hg
          rintro ⟨c1, fz1, h1⟩
          rw [h0] at h1; injection h1 with h1; injection h1 with _ h1 _; exact absurd h1 (by decide)
        have e2 := hkk2 g hgl hne
        have e3 := Hk3.out.block g (by rw [hsz2]; omega) (fun h => by
          rcases h with h | h
          · exact (HI1.out.apart g hg).2 (Or.inl h)
          · exact hne h) (fun h => hu (h.of_heap e2.symm))
        have hs3 : wr.heap.size + 1 ≤ w3.heap.size := by have := Hk3.out.below.size; rw [hsz2] at this; exact this
        exact ((Hb4.out.block g (by omega)).trans e3).trans e2
      have hown4 := ownsRow_of_heap HI1.out.out hog
      have Hog := Lib.hid hog
      have Hown4 := Lib.hid hown4
      have hB4 : w.heap.size ≤ W4.heap.size := by rw [hs4]; have := Hk3.out.below.size; rw [hsz2] at this; omega
      clear hW4 hs4 hb4 hn4 hog hown4
      go_wp2_with (at_builtin; go_must (refine wpList_append_own_at _ rfl _ _ 35 rfl w.heap.size 41 i0 (.agg #[.slice none 0 0, .slice none 0 0, .int .i64 0, .bool false, .int .i64 0, .int .i64 0]) 6 80 Tryd.underlying35 Hhi.out Hhz0.out Hhz1.out Hhzb.out rfl (by decide) u7 k vs rfl (by rw [← HW4.out]; exact Hown4.out) ⟨w3.heap.size + 1, 0, none⟩ 1 1 [.slice ea3 on ec3, .slice la ll lc, .int .i64 nn, .bool rf, .int .i64 rc, .int .i64 ri] rfl rfl (by rw [← HW4.out]; intro j x hx; rw [Lib.addr_add, Nat.zero_add, Lib.cell_of_heap Hn4.out, ← Array.getElem?_toList]; exact hx) (by intro x hx; simp at hx; rcases hx with rfl | rfl | rfl | rfl | rfl | rfl <;> rfl) (by unfold maxLen; omega) (by omega) (by rw [← HW4.out]; exact hB4) ?_); intro v5 w5 hown5 hgrow5 _ hob5; rw [← HW4.out] at hgrow5 hob5; have Hown5 := Lib.hid hown5; have Hgrow5 := Lib.hid hgrow5; have Hob5 := Lib.hid hob5; clear hown5 hgrow5 hob5)
      have hs23 : wr.heap.size + 1 ≤ w3.heap.size := by have := Hk3.out.below.size; rw [hsz2] at this; exact this
      have hs35 : w3.heap.size + 2 ≤ w5.heap.size := by have := Hgrow5.out.size; rw [Hs4.out] at this; exact this
      -- blocks that the append leaves
      have h35 : ∀ g, g < w3.heap.size → u7.ownBlock ≠ some g → w5.heap[g]? = w3.heap[g]? := fun g hg hne =>
        (Hgrow5.out.block g (by rw [Hs4.out]; omega) (fun e => hne e.symm)).trans (Hb4.out.block g hg)
      have hown' : ∀ g, p'.own (w.heap.size + 1) g → (p.own (w.heap.size + 1) g ∨ wr.heap.size + 1 ≤ g) := fun g hg => by
        rcases Ho3.out g hg with h | h
        · rcases h with h | h
          · exact Or.inl (Or.inl h)
          · exact Or.inl (Or.inr ((show g = w.heap.size from h) ▸ hEE))
        · rw [hsz2] at h; exact Or.inr h
      have hogA : ∀ g, u7.ownBlock = some g → g < wr.heap.size ∧ ¬ p'.own (w.heap.size + 1) g := fun g hg => by
        have hgl := (HI1.out.out.lt g hg).2
        refine ⟨hgl, fun h => ?_⟩
        rcases hown' g h with h | h
        · exact (HI1.out.apart g hg).2 h
        · omega
      have hogU : ∀ g, u7.ownBlock = some g → ¬ IsU8 w3 g := fun g hg hu => by
        have e1 := (Hb4.out.block g (by have := (hogA g hg).1; omega)).symm.trans (Hog.out g hg)
        obtain ⟨c0, fz0, h0⟩ := Lib.ownsRow_kind HI1.out.out g hg
        obtain ⟨c1, fz1, h1⟩ := hu
        rw [e1, h0] at h1; injection h1 with h1; injection h1 with _ h1 _; exact absurd h1 (by decide)
      have hX3 : ∀ g, X g → w3.heap[g]? = wr.heap[g]? := fun g hg => by
        obtain ⟨a1, a2, a3, a4, a5⟩ := HI1.out.low g hg
        have e2 := hkk2 g a1 a4
        exact (Hk3.out.block g (by rw [hsz2]; omega) (fun h => h.elim a3 a4) (fun h => a5 (h.of_heap e2.symm))).trans e2
      have hX5 : ∀ g, X g → w5.heap[g]? = wr.heap[g]? := fun g hg => by
        have a1 := (HI1.out.low g hg).1
        exact (h35 g (by omega) (fun e => (HI1.out.apart g e).1 hg)).trans (hX3 g hg)
      have hE3 : ∀ g, (Value.slice ea3 on ec3).ownBlock = some g → g < w3.heap.size ∧ w.heap.size ≤ g ∧ p'.own (w.heap.size + 1) g := fun g hg => ⟨(Hoe3.out.lt g hg).2, (Hoe3.out.lt g hg).1, Or.inr ((HEe3.out g).2 (Or.inr hg))⟩
      have hsix : [Value.slice ea3 on ec3, .slice la ll lc, .int .i64 nn, .bool rf, .int .i64 rc, .int .i64 ri] = (ansCells (.slice ea3 on ec3) (.slice la ll lc) nn r.2).toList := by rw [Hrf.out, Hrc.out, Hri.out]; rfl
      have hlive : Live w.heap.size w5 (w.heap.size + 1) (implEm w.heap.size w.heap.size) r.1.st r.2.out p' := by
        have h := Hl3.out
        rw [List.nil_append] at h
        exact h.frame fun g hg => h35 g (h.own_lt hg) (fun e => (hogA g e).2 hg)
      refine ⟨⟨k + 1, r.1, az ++ [r.2], vs ++ [.slice ea3 on ec3, .slice la ll lc, .int .i64 nn, .bool rf, .int .i64 rc, .int .i64 ri], r.2.out, p', fun g => X g ∨ (Value.slice ea3 on ec3).ownBlock = some g ∨ (wr.heap.size + 1 ≤ g ∧ g < w3.heap.size ∧ ¬ p'.own (w.heap.size + 1) g ∧ ¬ IsU8 w3 g), hlt, by go_num, ?_, ?_, ?_, hlive, ?_, Hown5.out, ?_, ?_, ?_, ?_, ?_⟩, by simp [intOf]; omega⟩
      · rw [HI1.out.res, Hdrop.out, HD.drun, ← Hr.out]; simp
      · rw [Hr.out]; exact Hok2.out
      · simp [HI1.out.len]
      · exact Hs3.out.kept rfl rfl rfl fun g hg => h35 g (Hs3.out.u8 hg).lt (fun e => hogU g e (Hs3.out.u8 hg))
      · intro i a ha
        rcases Nat.lt_or_ge i az.length with hi | hi
        · rw [List.getElem?_append_left hi] at ha
          exact (HI1.out.at_ i a ha).move hX5 (fun g hg => Or.inl hg) _
        · have hi0 : i = az.length := by
            have := (List.getElem?_eq_some_iff.1 ha).1
            simp at this; omega
          subst hi0
          rw [List.getElem?_append_right (Nat.le_refl _), Nat.sub_self] at ha
          obtain rfl : r.2 = a := by simpa using ha
          rw [hsix]
          have hvl : vs.length = az.length * 6 := by rw [HI1.out.len]; exact HI1.out.out.1
          refine AnsAt.last hvl (FRow.of_own (B := w.heap.size) (e := 26) ?_ fun g hg => Or.inr (Or.inl hg)) (Hfr.out.move (fun g hg => h35 g hg.2.1 (fun e => by have := (hogA g e).1; have := hg.1; rw [hsz2] at this; omega)) (fun g hg => Or.inr (Or.inr (by rw [← hsz2]; exact hg))))
          rw [← Hon.out]
          exact ownsRow_of_heap Hoe3.out fun g hg => h35 g (hE3 g hg).1 (fun e => (hogA g e).2 (hE3 g hg).2.2)
      · rintro g (hg | hg | ⟨hg1, hg2, hg3, hg4⟩)
        · obtain ⟨a1, a2, a3, a4, a5⟩ := HI1.out.low g hg
          refine ⟨by omega, a2, fun h => ?_, a4, fun h => a5 (h.of_heap (hX5 g hg).symm)⟩
          rcases Ho3.out g (Or.inl h) with h' | h'
          · rcases h' with h' | h'
            · exact a3 h'
            · exact a4 h'
          · rw [hsz2] at h'; omega
        · obtain ⟨a1, a2, a3⟩ := hE3 g hg
          have hne : g ≠ w.heap.size := fun e => Hne3.out (by rw [hg, e])
          exact ⟨by omega, a2, fun h => Hl3.out.apart g h ((HEe3.out g).2 (Or.inr hg)), hne, fun hu => hlive.kind hu a3⟩
        · have hne : g ≠ w.heap.size := by omega
          have e5 := h35 g hg2 (fun e => by have := (hogA g e).1; omega)
          exact ⟨by omega, by omega, fun h => hg3 (Or.inl h), hne, fun hu => hg4 (hu.of_heap e5.symm)⟩
      · intro g hg
        rcases Hob5.out with h | h
        · rw [h] at hg
          obtain ⟨a1, a2⟩ := hogA g hg
          refine ⟨?_, a2⟩
          rintro (h' | h' | ⟨h', -⟩)
          · exact (HI1.out.apart g hg).1 h'
          · exact a2 (hE3 g h').2.2
          · omega
        · rw [h] at hg
          obtain rfl := Option.some.inj hg
          rw [Hs4.out]
          refine ⟨?_, fun h' => ?_⟩
          · rintro (h' | h' | ⟨-, h', -⟩)
            · have := (HI1.out.low _ h').1; omega
            · have := (hE3 _ h').1; omega
            · omega
          · have := Hl3.out.own_lt h'; omega
      · have h1 : Below w.heap.size w w3 := Hb2.out.trans Hk3.out.below
        have h2 : Below w.heap.size w W4 := h1.trans (Hb4.out.mono h1.size)
        exact h2.grown Hgrow5.out hB4 (fun g hg => (HI1.out.out.lt g hg).1)
      · have h1 := Hn3.out
        have h2 := Hnum.out
        have h3 : ({ p with E := fun k => k = w.heap.size } : DP).cnt = p.cnt := rfl
        omega
    · obtain rfl : k = n := Nat.le_antisymm hk hge
      have HI1 := Lib.hid hI1
      clear hI1
      go_wp2_with fail
      go_ret
      have hAz : A = az := by rw [HI1.out.res, List.drop_of_length_le (Nat.le_of_eq Hnn.out)]; simp [HD.drun]
      refine ⟨u7, vs, X, rfl, ?_, by rw [hAz]; exact HI1.out.at_, fun g h => ⟨(HI1.out.low g h).1, (HI1.out.low g h).2.1, (HI1.out.low g h).2.2.2.2⟩, fun g h => (HI1.out.apart g h).1, HI1.out.below⟩
      rw [hAz, HI1.out.len]
      exact HI1.out.out
end Go.Proofs.YtjdmaflkafmmpaaDoor
/-
  PLAIN: what is read of a block does not hang on what stands behind it: cuts; a decoder that must not emit. No program in sight.
-/
namespace Go.Proofs.YtjdmaflkafmmpaaDoor.HD

def VI.ext (x : Bs) : VI → VI
  | .ok i r => .ok i (r ++ x)
  | o => o
def RS.ext (x : Bs) : RS → RS
  | .ok h b r => .ok h b (r ++ x)
  | o => o
def P1.ext (x : Bs) : P1 → P1
  | .ok e m o r => .ok e m o (r ++ x)
  | o => o
theorem vcont_ext (x : Bs) : ∀ (p : Bs) (i m : Nat), vcont p i m ≠ .more → vcont (p ++ x) i m = (vcont p i m).ext x
  | [], _, _, h => absurd rfl h
  | b :: p, i, m, h => by
    rw [vcont] at h
    rw [List.cons_append, vcont, vcont]
    split
    · rfl
    · split
      · rfl
      · rename_i h1 h2
        rw [if_neg h1, if_neg h2] at h
        exact vcont_ext x p _ _ h
theorem rvi_ext (x : Bs) (n : Nat) (p : Bs) (h : rvi n p ≠ .more) : rvi n (p ++ x) = (rvi n p).ext x := by
  cases p with
  | nil => exact absurd rfl h
  | cons b p =>
    rw [rvi] at h
    rw [List.cons_append, rvi, rvi]
    split
    · rfl
    · rename_i h1
      rw [if_neg h1] at h
      exact vcont_ext x p _ _ h
theorem rstr_ext (x v : Bs) (h : rstr v ≠ .more) : rstr (v ++ x) = (rstr v).ext x := by
  cases v with
  | nil => exact absurd rfl h
  | cons c p =>
    rw [rstr] at h
    rw [List.cons_append, rstr, ← List.cons_append]
    cases hr : rvi 7 (c :: p) with
    | more => rw [hr] at h; exact absurd rfl h
    | over =>
      rw [rvi_ext x 7 _ (by rw [hr]; simp), hr, rstr, hr]; rfl
    | ok n rest =>
      rw [hr] at h
      dsimp only at h
      by_cases hn : rest.length < n
      · rw [if_pos hn] at h; exact absurd rfl h
      · rw [rvi_ext x 7 _ (by rw [hr]; simp), hr, rstr, hr]
        simp only [VI.ext]
        rw [if_neg (by simp; omega), if_neg hn, List.take_append_of_le_length (by omega), List.drop_append_of_le_length (by omega)]
        rfl
theorem pVal_ext (x : Bs) (s : St) (idx sens : Bool) (nm : Sum Bs (Bool × Bs)) (v : Bs) (h : pVal s idx sens nm v ≠ .more) : pVal s idx sens nm (v ++ x) = (pVal s idx sens nm v).ext x := by
  unfold pVal at h ⊢
  cases hr : rstr v with
  | more => rw [hr] at h; exact absurd rfl h
  | over => rw [rstr_ext x v (by rw [hr]; simp), hr]; rfl
  | ok hh b rest =>
    rw [rstr_ext x v (by rw [hr]; simp), hr]
    simp only [RS.ext]
    split
    · split
      · rfl
      · split <;> rfl
    · rfl
theorem pLit_ext (x : Bs) (s : St) (n : Nat) (idx sens : Bool) (v : Bs) (h : pLit s n idx sens v ≠ .more) : pLit s n idx sens (v ++ x) = (pLit s n idx sens v).ext x := by
  unfold pLit at h ⊢
  cases hr : rvi n v with
  | more => rw [hr] at h; exact absurd rfl h
  | over => rw [rvi_ext x n v (by rw [hr]; simp), hr]; rfl
  | ok i rest =>
    rw [rvi_ext x n v (by rw [hr]; simp), hr]
    rw [hr] at h
    simp only [VI.ext]
    dsimp only at h
    by_cases hi : 0 < i
    · rw [if_pos hi] at h
      rw [if_pos hi, if_pos hi]
      cases he : entAt s.ents i with
      | none => rfl
      | some e =>
        rw [he] at h
        exact pVal_ext x s idx sens _ rest h
    · rw [if_neg hi] at h
      rw [if_neg hi, if_neg hi]
      cases hs : rstr rest with
      | more => rw [hs] at h; exact absurd rfl h
      | over => rw [rstr_ext x rest (by rw [hs]; simp), hs]; rfl
      | ok hh b rest2 =>
        rw [hs] at h
        rw [rstr_ext x rest (by rw [hs]; simp), hs]
        exact pVal_ext x s idx sens _ rest2 h
theorem pIdx_ext (x : Bs) (s : St) (v : Bs) (h : pIdx s v ≠ .more) : pIdx s (v ++ x) = (pIdx s v).ext x := by
  unfold pIdx at h ⊢
  cases hr : rvi 7 v with
  | more => rw [hr] at h; exact absurd rfl h
  | over => rw [rvi_ext x 7 v (by rw [hr]; simp), hr]; rfl
  | ok i rest =>
    rw [rvi_ext x 7 v (by rw [hr]; simp), hr]
    simp only [VI.ext]
    cases entAt s.ents i <;> rfl
theorem pUpd_ext (x : Bs) (s : St) (v : Bs) (h : pUpd s v ≠ .more) : pUpd s (v ++ x) = (pUpd s v).ext x := by
  unfold pUpd at h ⊢
  by_cases hc : s.first = false ∧ 0 < tsize s.ents
  · rw [if_pos hc, if_pos hc]; rfl
  · rw [if_neg hc] at h
    rw [if_neg hc, if_neg hc]
    cases hr : rvi 5 v with
    | more => rw [hr] at h; exact absurd rfl h
    | over => rw [rvi_ext x 5 v (by rw [hr]; simp), hr]; rfl
    | ok i rest =>
      rw [rvi_ext x 5 v (by rw [hr]; simp), hr]
      simp only [VI.ext]
      split <;> rfl
theorem pRepr_ext (x : Bs) (s : St) (v : Bs) (h : pRepr s v ≠ .more) : pRepr s (v ++ x) = (pRepr s v).ext x := by
  cases v with
  | nil => exact absurd rfl h
  | cons b p =>
    rw [pRepr] at h
    rw [List.cons_append, pRepr, pRepr, ← List.cons_append]
    split
    · rename_i h1; rw [if_pos h1] at h; exact pIdx_ext x s _ h
    · rename_i h1
      rw [if_neg h1] at h
      split
      · rename_i h2; rw [if_pos h2] at h; exact pLit_ext x s _ _ _ _ h
      · rename_i h2
        rw [if_neg h2] at h
        split
        · rename_i h3; rw [if_pos h3] at h; exact pLit_ext x s _ _ _ _ h
        · rename_i h3
          rw [if_neg h3] at h
          split
          · rename_i h4; rw [if_pos h4] at h; exact pLit_ext x s _ _ _ _ h
          · rename_i h4; rw [if_neg h4] at h; exact pUpd_ext x s _ h

theorem wr_fuel : ∀ (n m : Nat) (s : St) (out : List Fld) (v : Bs), v.length ≤ n → v.length ≤ m → wr n s out v = wr m s out v
  | n, m, s, out, [], _, _ => by rw [wr_nil, wr_nil]
  | 0, _, _, _, _ :: _, h, _ => by simp at h
  | _ + 1, 0, _, _, _ :: _, _, h => by simp at h
  | n + 1, m + 1, s, out, b :: v, hn, hm => by
    rw [wr, wr]
    cases hr : pRepr s (b :: v) with
    | more => rfl
    | bad e => rfl
    | ok ents max o rest =>
      have := pRepr_len hr
      exact wr_fuel n m _ _ rest (by simp at *; omega) (by simp at *; omega)
/-- Reading bytes, representation by representation. -/
def W (s : St) (out : List Fld) (v : Bs) : WR := wr v.length s out v
theorem W_nil (s : St) (out : List Fld) : W s out [] = ⟨s, out, [], none⟩ := rfl
theorem W_cons (s : St) (out : List Fld) (b : UInt8) (v : Bs) : W s out (b :: v) = match pRepr s (b :: v) with
    | .more => ⟨s, out, b :: v, none⟩
    | .bad e => ⟨{ s with first := false }, out, [], some e⟩
    | .ok ents max o rest => W { s with ents := ents, max := max, first := false } (out ++ o.toList) rest := by
  unfold W
  rw [List.length_cons, wr]
  cases hr : pRepr s (b :: v) with
  | more => rfl
  | bad e => rfl
  | ok ents max o rest =>
    have := pRepr_len hr
    exact wr_fuel _ _ _ _ rest (by simp at *; omega) (Nat.le_refl _)
theorem write_eq {s : St} {save p : Bs} (h : W s [] save = ⟨s, [], save, none⟩) : write s save p = W s [] (save ++ p) := by
  unfold write
  split
  · rename_i hp
    rw [hp, List.append_nil, h]
  · rfl

theorem W_out : ∀ (n : Nat) (s : St) (out : List Fld) (v : Bs), v.length ≤ n → W s out v = { W s [] v with out := out ++ (W s [] v).out }
  | n, s, out, [], _ => by simp [W_nil]
  | 0, _, _, _ :: _, h => by simp at h
  | n + 1, s, out, b :: v, h => by
    rw [W_cons, W_cons]
    cases hr : pRepr s (b :: v) with
    | more => simp
    | bad e => simp
    | ok ents max o rest =>
      have hl := pRepr_len hr
      have hl' : rest.length ≤ n := by simp at *; omega
      dsimp only
      rw [W_out n _ (out ++ o.toList) rest hl', W_out n _ ([] ++ o.toList) rest hl']
      simp
theorem W_ext (x : Bs) : ∀ (n : Nat) (s : St) (out : List Fld) (v : Bs), v.length ≤ n →
    W s out (v ++ x) = match (W s out v).err with
      | some _ => W s out v
      | none => W (W s out v).st (W s out v).out ((W s out v).save ++ x)
  | n, s, out, [], _ => by simp [W_nil]
  | 0, _, _, _ :: _, h => by simp at h
  | n + 1, s, out, b :: v, h => by
    have hc : W s out (b :: v ++ x) = _ := W_cons s out b (v ++ x)
    rw [hc, W_cons s out b v]
    cases hr : pRepr s (b :: v) with
    | more =>
      dsimp only
      rw [← hc]
    | bad e =>
      rw [← List.cons_append, pRepr_ext x s (b :: v) (by rw [hr]; simp), hr]
      rfl
    | ok ents max o rest =>
      have hl := pRepr_len hr
      rw [← List.cons_append, pRepr_ext x s (b :: v) (by rw [hr]; simp), hr]
      exact W_ext x n _ _ rest (by simp at *; omega)
/-- What is kept waits for more. -/
theorem W_save : ∀ (n : Nat) (s : St) (out : List Fld) (v : Bs), v.length ≤ n → (W s out v).err = none → W (W s out v).st [] (W s out v).save = ⟨(W s out v).st, [], (W s out v).save, none⟩
  | n, s, out, [], _, _ => by simp [W_nil]
  | 0, _, _, _ :: _, h, _ => by simp at h
  | n + 1, s, out, b :: v, h, he => by
    rw [W_cons] at he ⊢
    cases hr : pRepr s (b :: v) with
    | more =>
      dsimp only
      rw [W_cons, hr]
    | bad e => rw [hr] at he; cases he
    | ok ents max o rest =>
      have hl := pRepr_len hr
      rw [hr] at he
      exact W_save n _ _ rest (by simp at *; omega) he

/-- A block may be cut into calls of Write. -/
theorem cuts_rd (q : Bs) : ∀ (ps : List Bs) (acc : List Fld) (σ : DS), W σ.st [] σ.save = ⟨σ.st, [], σ.save, none⟩ →
    rd acc (drun σ (ps.map Cmd.write ++ [.write q, .close])) = rd acc (drun σ [.write (ps.flatten ++ q), .close])
  | [], acc, σ, _ => rfl
  | p :: ps, acc, σ, h => by
    have e1 := write_eq (p := p) h
    have e2 : write σ.st σ.save (p ++ (ps.flatten ++ q)) = W σ.st [] (σ.save ++ p ++ (ps.flatten ++ q)) := by
      rw [List.append_assoc]; exact write_eq h
    have hx := W_ext (ps.flatten ++ q) _ σ.st [] (σ.save ++ p) (Nat.le_refl _)
    rw [List.map_cons, List.cons_append, List.flatten_cons, List.append_assoc]
    obtain ⟨r, hr⟩ : ∃ r, r = W σ.st [] (σ.save ++ p) := ⟨_, rfl⟩
    rw [← hr] at e1 hx
    rw [hx] at e2
    cases he : r.err with
    | some e =>
      rw [he] at e2
      simp only [drun, dstep, e1, e2, rd, he]
    | none =>
      rw [he] at e2
      have hs : W r.st [] r.save = ⟨r.st, [], r.save, none⟩ := by
        rw [hr]; exact W_save _ _ _ _ (Nat.le_refl _) (by rw [← hr]; exact he)
      have ih := cuts_rd q ps (acc ++ r.out) ⟨r.st, r.save⟩ hs
      have e3 := write_eq (p := ps.flatten ++ q) hs
      have e4 := W_out _ r.st r.out (r.save ++ (ps.flatten ++ q)) (Nat.le_refl _)
      dsimp only at e2
      rw [e4] at e2
      obtain ⟨r2, hr2⟩ : ∃ r2, r2 = W r.st [] (r.save ++ (ps.flatten ++ q)) := ⟨_, rfl⟩
      rw [← hr2] at e2 e3
      have l : rd acc (drun σ (.write p :: (ps.map Cmd.write ++ [.write q, .close]))) = rd (acc ++ r.out) (drun ⟨r.st, r.save⟩ (ps.map Cmd.write ++ [.write q, .close])) := by
        rw [drun]
        simp only [dstep, e1, rd, he]
      rw [l, ih]
      simp only [drun, dstep, e2, e3, rd, List.append_assoc]

/-! ### A decoder that must not emit -/
def St.quiet (s : St) : St := { s with on := false }
def P1.quiet : P1 → P1
  | .ok e m _ r => .ok e m none r
  | o => o
theorem pVal_quiet (s : St) (hs : s.on = true) (idx sens : Bool) (nm : Sum Bs (Bool × Bs)) (v : Bs) (h : ∀ e, pVal s idx sens nm v ≠ .bad e) : pVal s.quiet idx sens nm v = (pVal s idx sens nm v).quiet := by
  unfold pVal at h ⊢
  cases hr : rstr v with
  | more => rfl
  | over => rfl
  | ok hh b rest =>
    rw [hr] at h
    simp only [St.quiet, hs, Bool.true_or, if_true, Bool.false_or] at h ⊢
    cases nm with
    | inl n =>
      dsimp only at h ⊢
      cases h2 : dstr hh b with
      | none => rw [h2] at h; exact absurd rfl (h .huff)
      | some y => cases idx <;> simp [pEnd, tell, P1.quiet]
    | inr q =>
      obtain ⟨h0, b0⟩ := q
      dsimp only at h ⊢
      cases h1 : dstr h0 b0 with
      | none => rw [h1] at h; exact absurd rfl (h .huff)
      | some n =>
        rw [h1] at h
        dsimp only at h ⊢
        cases h2 : dstr hh b with
        | none => rw [h2] at h; exact absurd rfl (h .huff)
        | some y => cases idx <;> simp [pEnd, tell, P1.quiet]
theorem pLit_quiet (s : St) (hs : s.on = true) (n : Nat) (idx sens : Bool) (v : Bs) (h : ∀ e, pLit s n idx sens v ≠ .bad e) : pLit s.quiet n idx sens v = (pLit s n idx sens v).quiet := by
  unfold pLit at h ⊢
  cases hr : rvi n v with
  | more => rfl
  | over => rfl
  | ok i rest =>
    rw [hr] at h
    dsimp only at h ⊢
    by_cases hi : 0 < i
    · rw [if_pos hi] at h
      rw [if_pos hi, if_pos hi]
      show (match entAt s.ents i with | none => _ | some e => _) = _
      cases he : entAt s.ents i with
      | none => rfl
      | some e =>
        rw [he] at h
        exact pVal_quiet s hs idx sens _ rest h
    · rw [if_neg hi] at h
      rw [if_neg hi, if_neg hi]
      cases hr2 : rstr rest with
      | more => rfl
      | over => rfl
      | ok hh b rest2 =>
        rw [hr2] at h
        exact pVal_quiet s hs idx sens _ rest2 h
theorem pIdx_quiet (s : St) (v : Bs) : pIdx s.quiet v = (pIdx s v).quiet := by
  unfold pIdx
  cases hr : rvi 7 v with
  | more => rfl
  | over => rfl
  | ok i rest =>
    show (match entAt s.ents i with | none => _ | some e => _) = _
    dsimp only
    cases he : entAt s.ents i <;> rfl
theorem pUpd_quiet (s : St) (v : Bs) : pUpd s.quiet v = (pUpd s v).quiet := by
  unfold pUpd
  show (if s.first = false ∧ 0 < tsize s.ents then _ else _) = _
  split
  · rfl
  · cases hr : rvi 5 v with
    | more => rfl
    | over => rfl
    | ok i rest =>
      show (if s.allowed < i then _ else _) = _
      dsimp only
      split <;> rfl
theorem pRepr_quiet (s : St) (hs : s.on = true) (v : Bs) (h : ∀ e, pRepr s v ≠ .bad e) : pRepr s.quiet v = (pRepr s v).quiet := by
  cases v with
  | nil => rfl
  | cons b p =>
    rw [pRepr] at h ⊢
    rw [pRepr]
    split
    · exact pIdx_quiet s _
    · rename_i h1
      rw [if_neg h1] at h
      split
      · rename_i h2; rw [if_pos h2] at h; exact pLit_quiet s hs _ _ _ _ h
      · rename_i h2
        rw [if_neg h2] at h
        split
        · rename_i h3; rw [if_pos h3] at h; exact pLit_quiet s hs _ _ _ _ h
        · rename_i h3
          rw [if_neg h3] at h
          split
          · rename_i h4; rw [if_pos h4] at h; exact pLit_quiet s hs _ _ _ _ h
          · exact pUpd_quiet s _
theorem W_quiet : ∀ (n : Nat) (s : St) (out : List Fld) (v : Bs), v.length ≤ n → s.on = true → (W s out v).err = none →
    W s.quiet [] v = ⟨(W s out v).st.quiet, [], (W s out v).save, none⟩ ∧ (W s out v).st.on = true
  | n, s, out, [], _, hs, _ => ⟨by simp [W_nil], hs⟩
  | 0, _, _, _ :: _, h, _, _ => by simp at h
  | n + 1, s, out, b :: v, h, hs, he => by
    rw [W_cons] at he ⊢
    cases hr : pRepr s (b :: v) with
    | more =>
      rw [W_cons, pRepr_quiet s hs _ (by rw [hr]; simp), hr]
      exact ⟨rfl, hs⟩
    | bad e => rw [hr] at he; cases he
    | ok ents max o rest =>
      have hl := pRepr_len hr
      rw [hr] at he
      rw [W_cons, pRepr_quiet s hs _ (by rw [hr]; simp), hr]
      exact W_quiet n { s with ents := ents, max := max, first := false } _ rest (by simp at *; omega) hs he
end Go.Proofs.YtjdmaflkafmmpaaDoor.HD
/-
  The contracts of the laws' own functions: isSize, whole, spec.Integer, spec.Update.
-/
namespace Go.Proofs.YtjdmaflkafmmpaaDoor
open Go.ChangeShapes Go.WideShapes Go.ChangeAt Go.RowKit

theorem isSize_any (n : Int) (w : World) : Calls Tryd.prog 15 #[.int .i64 n] w fun e w' => e = .returned (.bool (decide (0 ≤ n ∧ n ≤ 2147483648))) ∧ w' = w := by
  rcases Classical.em (0 ≤ n) with h0 | h0
  · have d0 : decide (0 ≤ n) = true := decide_eq_true h0
    go_enter Tryd.func15, Tryd.ntmps15
    go_wp2
    go_ret
    exact ⟨ret_bool (by simp [h0]), rfl⟩
  · have d0 : decide (0 ≤ n) = false := decide_eq_false h0
    have hr : decide (0 ≤ n ∧ n ≤ 2147483648) = false := decide_eq_false fun h => h0 h.1
    rw [hr]
    go_enter Tryd.func15, Tryd.ntmps15
    go_wp2
    go_ret
    exact ⟨rfl, rfl⟩


theorem news_one (w : World) (x : Value) (t : TypeId) : ∀ j y, [x][j]? = some y → (w.alloc (.cells #[x] t)).cell? ((⟨w.heap.size, 0, none⟩ : Addr).add j) = some y := by
  intro j y hy
  have hj : j = 0 := by
    have := (List.getElem?_eq_some_iff.1 hy).1
    simpa using this
  subst hj
  rw [Lib.addr_add, Nat.zero_add, Lib.cell_of_heap (heap_alloc_new w _)]
  simpa using hy
theorem own_one (w : World) (x : UInt8) : (w.alloc (.cells #[.int .u8 (x.toNat : Nat)] 5)).ownsRow w.heap.size 5 1 (.slice (some ⟨w.heap.size, 0, none⟩) 1 1) 1 (Lib.byteCells [x]) := by
  refine ⟨rfl, Or.inr ⟨w.heap.size, 1, #[.int .u8 (x.toNat : Nat)], rfl, Nat.le_refl _, heap_alloc_new w _, Nat.le_refl _, by decide, rfl, rfl⟩⟩
end Go.Proofs.YtjdmaflkafmmpaaDoor
/-
  The contract of laws.read: the fields of answers up to the first refusal.
-/
namespace Go.Proofs.YtjdmaflkafmmpaaDoor
open Go.ChangeShapes Go.WideShapes Go.ChangeAt Go.RowKit

theorem code_ne (er : HD.Er) : HD.code (some er) ≠ 0 := by cases er <;> simp [HD.code]
theorem infoFld : (Tryd.prog.info? 26).map (fun i => (i.zero, i.size, i.bytes)) = some (some (.agg #[.string ByteArray.empty, .string ByteArray.empty, .bool false]), 3, 40) := by kernel_rfl
theorem drop_rd (A : List HD.Ans) (k : Nat) (h : k < A.length) (acc : List HD.Fld) : HD.rd acc (A.drop k) = match A[k].err with
    | some e => (acc ++ A[k].out, some e)
    | none => HD.rd (acc ++ A[k].out) (A.drop (k + 1)) := by
  rw [List.drop_eq_getElem_cons h, HD.rd]
  all_goals (cases A[k].err <;> rfl)
/-- What read hands back. -/
def ReadEnds (w : World) (r : List HD.Fld × Option HD.Er) (e : Ending) (w' : World) : Prop := ∃ a cap, e = .returned (.tuple #[.slice a r.1.length cap, .int .i64 (HD.code r.2), .int .i64 (HD.idx r.2)]) ∧
  w'.ownsRow w.heap.size 26 3 (.slice a r.1.length cap) r.1.length (flds r.1) ∧ Below w.heap.size w w'

end Go.Proofs.YtjdmaflkafmmpaaDoor
/-
  The contract of laws.equal: two slices of fields hold the same fields.
-/
namespace Go.Proofs.YtjdmaflkafmmpaaDoor
open Go.ChangeShapes Go.WideShapes Go.ChangeAt Go.RowKit

instance : DecidableEq HD.Fld := fun a b => decidable_of_iff (a.name = b.name ∧ a.value = b.value ∧ a.sens = b.sens) ⟨fun ⟨h1, h2, h3⟩ => by cases a; cases b; simp_all, fun h => by rw [h]; exact ⟨rfl, rfl, rfl⟩⟩
/-- A slice whose cells hold fields. -/
def FSl (w : World) (v : Value) (l : List HD.Fld) : Prop := ∃ a c, v = .slice a l.length c ∧ l.length ≤ c ∧ (l ≠ [] → ∃ g o, a = some ⟨g, o, none⟩ ∧ ∀ j u, (flds l)[j]? = some u → w.cell? ⟨g, o + j, none⟩ = some u)
theorem FSl.mono {w w' : World} {v : Value} {l : List HD.Fld} (h : FSl w v l) (hb : Below w.heap.size w w') : FSl w' v l := by
  obtain ⟨a, c, e, hc, h⟩ := h
  refine ⟨a, c, e, hc, fun hne => ?_⟩
  obtain ⟨g, o, e2, hcl⟩ := h hne
  exact ⟨g, o, e2, fun j u hu => (hb.cell (p := ⟨g, o + j, none⟩) (World.block_lt_of_cell? _ _ (hcl j u hu))).trans (hcl j u hu)⟩
theorem FSl.of_own {w : World} {B : Nat} {v : Value} {l : List HD.Fld} {e : TypeId} (h : w.ownsRow B e 3 v l.length (flds l)) : FSl w v l := by
  rcases h.2 with ⟨e, h0⟩ | ⟨g, cap, cur, e, hB, hg, h1, h2, -, -⟩
  · exact ⟨none, 0, by rw [h0]; exact e, by omega, fun hne => absurd (List.eq_nil_of_length_eq_zero h0) hne⟩
  · refine ⟨_, cap, e, h1, fun _ => ⟨g, 0, rfl, fun j u hu => ?_⟩⟩
    have := h.cells (g := g) (by rw [e]; rfl) j u hu
    rwa [Lib.addr_add] at this
theorem FSl.of_frow {w : World} {X : Nat → Prop} {v : Value} {l : List HD.Fld} (h : FRow w X v l) : FSl w v l := by
  rcases h with ⟨rfl, rfl⟩ | ⟨g, cap, e, -, h1, -, hc⟩
  · exact ⟨none, 0, rfl, Nat.le_refl _, fun h => absurd rfl h⟩
  · exact ⟨_, cap, e, h1, fun _ => ⟨g, 0, rfl, fun j u hu => by rw [Nat.zero_add]; exact hc j u hu⟩⟩
theorem flds_at (l : List HD.Fld) (k : Nat) (hk : k < l.length) : (flds l)[k * 3]? = some (.string ⟨l[k].name.toArray⟩) ∧ (flds l)[k * 3 + 1]? = some (.string ⟨l[k].value.toArray⟩) ∧ (flds l)[k * 3 + 2]? = some (.bool l[k].sens) := by
  have key : ∀ (l : List HD.Fld) (k : Nat) (hk : k < l.length) (j : Nat), j < 3 → (flds l)[k * 3 + j]? = (fCells l[k])[j]? := by
    intro l
    induction l with
    | nil => intro k hk; simp at hk
    | cons f l ih =>
      intro k hk j hj
      have hf : flds (f :: l) = fCells f ++ flds l := rfl
      cases k with
      | zero => rw [hf, Nat.zero_mul, Nat.zero_add, List.getElem?_append_left (by simpa [fCells] using hj)]; rfl
      | succ k =>
        rw [hf, show (k + 1) * 3 + j = 3 + (k * 3 + j) by omega, List.getElem?_append_right (by simp [fCells]), show 3 + (k * 3 + j) - (fCells f).length = k * 3 + j by simp [fCells]]
        exact ih k (by simpa using hk) j hj
  exact ⟨key l k hk 0 (by decide), key l k hk 1 (by decide), key l k hk 2 (by decide)⟩

theorem under_fld : Tryd.prog.underlying 26 = some (.struct #[⟨ "Name", 9, 0, false, "", "", 0⟩, ⟨ "Value", 9, 1, false, "", "", 16⟩, ⟨ "Sensitive", 4, 2, false, "", "", 32⟩]) := by kernel_rfl
theorem fields_fld : Tryd.prog.fieldsOf 26 = #[⟨ "Name", 9, 0, false, "", "", 0⟩, ⟨ "Value", 9, 1, false, "", "", 16⟩, ⟨ "Sensitive", 4, 2, false, "", "", 32⟩] := by kernel_rfl
theorem part_bool (cs : Array Value) (i : Nat) (v : Value) (h : cs[i]? = some v) (w : World) : (part 4 cs i).run Tryd.prog w = .ok v w := by
  unfold part isAgg
  simp only [Sem.run_bind, run_underlying Tryd.underlying4, Result.andThen_ok, Sem.run_pure, Bool.false_eq_true, if_false, h]
theorem equal_fld (f q : HD.Fld) (w : World) : (Op.equalIn 10000 26 (.agg #[.string ⟨f.name.toArray⟩, .string ⟨f.value.toArray⟩, .bool f.sens]) (.agg #[.string ⟨q.name.toArray⟩, .string ⟨q.value.toArray⟩, .bool q.sens])).run Tryd.prog w = .ok (decide (f = q)) w := by
  rw [show (10000 : Nat) = 9998 + 1 + 1 from rfl, run_equalIn_struct w (9998 + 1) _ _ _ (by rw [fields_fld]; exact under_fld) (by kernel_rfl), fields_fld]
  obtain ⟨f1, f2, f3⟩ := f
  obtain ⟨q1, q2, q3⟩ := q
  have p1 : ∀ w, (part 9 #[.string ⟨f1.toArray⟩, .string ⟨f2.toArray⟩, .bool f3] 0).run Tryd.prog w = .ok (.string ⟨f1.toArray⟩) w := part_str _ 0 _ rfl
  have p2 : ∀ w, (part 9 #[.string ⟨f1.toArray⟩, .string ⟨f2.toArray⟩, .bool f3] 1).run Tryd.prog w = .ok (.string ⟨f2.toArray⟩) w := part_str _ 1 _ rfl
  have p3 : ∀ w, (part 4 #[.string ⟨f1.toArray⟩, .string ⟨f2.toArray⟩, .bool f3] 2).run Tryd.prog w = .ok (.bool f3) w := part_bool _ 2 _ rfl
  have p4 : ∀ w, (part 9 #[.string ⟨q1.toArray⟩, .string ⟨q2.toArray⟩, .bool q3] 0).run Tryd.prog w = .ok (.string ⟨q1.toArray⟩) w := part_str _ 0 _ rfl
  have p5 : ∀ w, (part 9 #[.string ⟨q1.toArray⟩, .string ⟨q2.toArray⟩, .bool q3] 1).run Tryd.prog w = .ok (.string ⟨q2.toArray⟩) w := part_str _ 1 _ rfl
  have p6 : ∀ w, (part 4 #[.string ⟨q1.toArray⟩, .string ⟨q2.toArray⟩, .bool q3] 2).run Tryd.prog w = .ok (.bool q3) w := part_bool _ 2 _ rfl
  have e3 : ∀ w, (Op.equalIn (9998 + 1) 4 (.bool f3) (.bool q3)).run Tryd.prog w = .ok (f3 == q3) w := fun w => run_equalIn_bool w 9998 _ _ _ Tryd.underlying4
  simp only [Op.eqFields]
  rw [if_pos (by decide), if_pos (by decide), if_pos (by decide)]
  simp only [Sem.run_bind, p1, p2, p3, p4, p5, p6, Result.andThen_ok, equal_str, e3, Sem.run_ite, Sem.run_pure]
  have hd : decide ((⟨f1, f2, f3⟩ : HD.Fld) = ⟨q1, q2, q3⟩) = (decide (f1 = q1) && decide (f2 = q2) && (f3 == q3)) := by
    rw [Bool.eq_iff_iff]; simp [and_assoc]
  rw [hd]
  by_cases h1 : f1 = q1 <;> by_cases h2 : f2 = q2 <;> cases f3 <;> cases q3 <;> simp [h1, h2]

set_option maxHeartbeats 1000000 in
set_option maxRecDepth 100000 in
theorem equal_any (l1 l2 : List HD.Fld) (v1 v2 : Value) (w : World) (h1 : FSl w v1 l1) (h2 : FSl w v2 l2) (hl62 : l1.length ≤ 2 ^ 62) : Calls Tryd.prog 10 #[v1, v2] w fun e w' => e = .returned (.bool (decide (l1 = l2))) ∧ Below w.heap.size w w' := by
  obtain ⟨a1, c1, rfl, hc1, h1⟩ := h1
  obtain ⟨a2, c2, rfl, hc2, h2⟩ := h2
  by_cases hlen : l1.length = l2.length
  · have d0 : decide ((l1.length : Int) = (l2.length : Int)) = true := decide_eq_true (by omega)
    obtain ⟨n, hn⟩ : ∃ n, n = l1.length := ⟨_, rfl⟩
    have hn2 : l2.length = n := by rw [hn]; exact hlen.symm
    rw [hn2] at hc2
    rw [← hn] at hc1 hl62
    rw [← hn, hn2]
    have Hn := Lib.hid hn
    have Hn2 := Lib.hid hn2
    have H1 := Lib.hid h1
    have H2 := Lib.hid h2
    clear h1 h2 hn hn2 hlen d0
    go_enter Tryd.func10, Tryd.ntmps10
    go_wp2_with fail
    go_loopw [5, 13] (fun _ v13 wr => ∃ k : Nat, v13 = .int .i64 (k : Nat) ∧ k ≤ n ∧ l1.take k = l2.take k ∧ wr.heap = w.heap ∧ Below w.heap.size w wr) (fun _ v13 _ => n - (intOf v13).toNat)
    case atStart => exact ⟨0, rfl, Nat.zero_le _, rfl, rfl, Below.refl _ _⟩
    case round =>
      obtain ⟨k, rfl, hk, htk, hheap, hb⟩ := hrel
      have Htk := Lib.hid htk
      have Hheap := Lib.hid hheap
      have Hb := Lib.hid hb
      clear htk hheap hb
      rcases Nat.lt_or_ge k n with hlt | hge
      · have hk1 : k < l1.length := by rw [← Hn.out]; exact hlt
        have hk2 : k < l2.length := by rw [Hn2.out]; exact hlt
        have hkN : decide (k < n) = true := decide_eq_true hlt
        have hkI : (k : Int) < (n : Int) := by omega
        obtain ⟨g1, o1, rfl, hcl1⟩ := H1.out (fun e => by rw [e] at hk1; simp at hk1)
        obtain ⟨g2, o2, rfl, hcl2⟩ := H2.out (fun e => by rw [e] at hk2; simp at hk2)
        obtain ⟨x0, x1, x2⟩ := flds_at l1 k hk1
        obtain ⟨y0, y1, y2⟩ := flds_at l2 k hk2
        obtain ⟨f, hf⟩ : ∃ f, f = l1[k] := ⟨_, rfl⟩
        obtain ⟨q, hq⟩ : ∃ q, q = l2[k] := ⟨_, rfl⟩
        rw [← hf] at x0 x1 x2
        rw [← hq] at y0 y1 y2
        have up : ∀ g o v, w.cell? ⟨g, o, none⟩ = some v → wr.cell? ⟨g, o, none⟩ = some v := fun g o v h => (World.cell?_of_block (a := ⟨g, o, none⟩) (by rw [Hheap.out])).trans h
        have z0 := up _ _ _ (hcl1 _ _ x0)
        have z1 := up _ _ _ (hcl1 _ _ x1)
        have z2 := up _ _ _ (hcl1 _ _ x2)
        have z3 := up _ _ _ (hcl2 _ _ y0)
        have z4 := up _ _ _ (hcl2 _ _ y1)
        have z5 := up _ _ _ (hcl2 _ _ y2)
        rw [← Nat.add_assoc] at z1 z2 z4 z5
        have hfq := equal_fld f q
        have Hf := Lib.hid hf
        have Hq := Lib.hid hq
        clear hcl1 hcl2 x0 x1 x2 y0 y1 y2 up hf hq
        by_cases hfe : f = q
        · have de : decide (f = q) = true := decide_eq_true hfe
          rw [de] at hfq
          go_wp2_with fail
          go_quiet (fail)
          go_wp2_with fail
          refine ⟨⟨k + 1, by go_num, hlt, ?_, Hheap.out, Hb.out.trans ⟨rfl, rfl, rfl, Nat.le_refl _, fun _ _ => rfl⟩⟩, by simp [intOf]; omega⟩
          rw [← List.take_append_getElem hk1, ← List.take_append_getElem hk2, Htk.out, ← Hf.out, ← Hq.out, hfe]
        · have de : decide (f = q) = false := decide_eq_false hfe
          rw [de] at hfq
          go_wp2_with fail
          go_quiet (fail)
          go_wp2_with fail
          go_ret
          have he : decide (l1 = l2) = false := decide_eq_false fun h => hfe (by rw [Hf.out, Hq.out]; simp only [h])
          exact ⟨by rw [he]; rfl, Hb.out.trans ⟨rfl, rfl, rfl, Nat.le_refl _, fun _ _ => rfl⟩⟩
      · obtain rfl : k = n := Nat.le_antisymm hk hge
        have he : decide (l1 = l2) = true := decide_eq_true (by
          have := Htk.out
          rwa [List.take_of_length_le (Nat.le_of_eq Hn.out.symm), List.take_of_length_le (Nat.le_of_eq Hn2.out)] at this)
        go_wp2_with fail
        go_ret
        exact ⟨by rw [he]; rfl, Hb.out⟩
  · have d0 : decide ((l1.length : Int) = (l2.length : Int)) = false := decide_eq_false (by omega)
    have he : decide (l1 = l2) = false := decide_eq_false fun h => hlen (by rw [h])
    rw [he]
    clear h1 h2 he
    go_enter Tryd.func10, Tryd.ntmps10
    go_wp2_with fail
    go_ret
    exact ⟨rfl, Below.refl _ _⟩
end Go.Proofs.YtjdmaflkafmmpaaDoor
/-
  The contract of impl.fromFields: the fields of the library as the thin package's.
-/
namespace Go.Proofs.YtjdmaflkafmmpaaDoor
open Go.ChangeShapes Go.WideShapes Go.ChangeAt Go.RowKit

set_option maxHeartbeats 1000000 in
set_option maxRecDepth 100000 in
theorem fromFields_any (l : List HD.Fld) (a : Option Addr) (cap : Nat) (w : World) (hl : l.length ≤ 2 ^ 40) (hcell : ∀ g o, a = some ⟨g, o, none⟩ → ∀ j u, (flds l)[j]? = some u → w.cell? ⟨g, o + j, none⟩ = some u) (ha : l ≠ [] → ∃ g o, a = some ⟨g, o, none⟩) (hc : l.length ≤ cap) :
    Calls Tryd.prog 34 #[.slice a l.length cap] w fun e w' => ∃ v, e = .returned v ∧ w'.ownsRow w.heap.size 26 3 v l.length (flds l) ∧ Below w.heap.size w w' := by
  obtain ⟨n, hn⟩ : ∃ n, n = l.length := ⟨_, rfl⟩
  rw [← hn] at hl hc ⊢
  obtain ⟨i0, hi, hz0, hz1, hzb⟩ := info_parts infoFld'
  have Hi := Lib.hid hi
  have Hn := Lib.hid hn
  have Hcell := Lib.hid hcell
  have Ha := Lib.hid ha
  clear hi hn hcell ha
  go_enter Tryd.func34, Tryd.ntmps34
  go_wp2_with fail
  go_loopw [3, 8] (fun v3 v8 wr => ∃ k, v8 = .int .i64 (k : Nat) ∧ k ≤ n ∧ wr.ownsRow w.heap.size 26 3 v3 k (flds (l.take k)) ∧ Below w.heap.size w wr) (fun _ v8 _ => n - (intOf v8).toNat)
  case atStart => exact ⟨0, rfl, Nat.zero_le _, by simpa [flds] using World.ownsRow_nil _ _ _ _, Below.refl _ _⟩
  case round =>
    obtain ⟨k, rfl, hk, hown, hb⟩ := hrel
    obtain ⟨a3, c3, rfl⟩ := own_form hown
    have Hown := Lib.hid hown
    have Hb := Lib.hid hb
    have hsz := hb.size
    clear hown hb
    rcases Nat.lt_or_ge k n with hlt | hge
    · have hkl : k < l.length := by rw [← Hn.out]; exact hlt
      obtain ⟨g, o, rfl⟩ := Ha.out (fun h => by rw [h] at hkl; simp at hkl)
      have hf := flds_at l k hkl
      obtain ⟨f, hfe⟩ : ∃ f, f = l[k] := ⟨_, rfl⟩
      rw [← hfe] at hf
      have q0 : wr.cell? ⟨g, o + k * 3, none⟩ = some (.string ⟨f.name.toArray⟩) := (Hb.out.cell (World.block_lt_of_cell? _ _ (Hcell.out g o rfl _ _ hf.1))).trans (Hcell.out g o rfl _ _ hf.1)
      have q1 : wr.cell? ⟨g, o + k * 3 + 1, none⟩ = some (.string ⟨f.value.toArray⟩) := (Hb.out.cell (World.block_lt_of_cell? _ _ (Hcell.out g o rfl _ _ hf.2.1))).trans (Hcell.out g o rfl _ _ hf.2.1)
      have q2 : wr.cell? ⟨g, o + k * 3 + 2, none⟩ = some (.bool f.sens) := (Hb.out.cell (World.block_lt_of_cell? _ _ (Hcell.out g o rfl _ _ hf.2.2))).trans (Hcell.out g o rfl _ _ hf.2.2)
      have htake : flds (l.take (k + 1)) = flds (l.take k) ++ fCells f := by
        rw [← List.take_append_getElem hkl, flds_append, hfe]
        simp [flds]
      have hkN : decide (k < n) = true := decide_eq_true hlt
      have hkI : (k : Int) < (n : Int) := by omega
      have hcI : k < cap := by omega
      have Htake := Lib.hid htake
      clear hf hfe htake
      go_wp2_with fail
      refine (fromField_any f _).mono ?_
      rintro e w2 ⟨rfl, hb2⟩
      have hbw : Below wr.heap.size wr w2 := ((Below.refl _ wr).alloc (Nat.le_refl _) _).trans (hb2.mono (by simp))
      have Hbw := Lib.hid hbw
      have hs2 := hbw.size
      have hb3 : Below w2.heap.size w2 (w2.alloc (.cells (fCells f).toArray 26)) := (Below.refl _ _).alloc (Nat.le_refl _) _
      have hbw3 := hbw.trans (hb3.mono hs2)
      have Hown3 := Lib.hid (ownsRow_of_heap Hown.out fun g' hg => hbw3.block g' (Hown.out.lt g' hg).2)
      have Hn3 := Lib.hid (news_of_new w2 (fCells f) 26)
      have Hb3 := Lib.hid (Hb.out.trans (hbw3.mono Hb.out.size))
      clear hb2 hbw hb3 hbw3
      unfold fldV
      go_wp2_with (at_builtin; (refine wpList_append_own_at _ rfl _ _ 22 rfl w.heap.size 26 i0 (.agg #[.string ByteArray.empty, .string ByteArray.empty, .bool false]) 3 40 Tryd.underlying22 Hi.out hz0 hz1 hzb rfl (by decide) (.slice a3 k c3) k (flds (l.take k)) rfl ?a1 ⟨w2.heap.size, 0, none⟩ 1 1 (fCells f) rfl rfl ?a2 ?a3 ?a4 ?a5 ?a6 ?_))
      case a1 => exact Hown3.out
      case a2 => exact Hn3.out
      case a3 => intro u hu; simp [fCells] at hu; rcases hu with rfl | rfl | rfl <;> rfl
      case a4 => unfold maxLen; omega
      case a5 => omega
      case a6 => exact Hb3.out.size
      intro v4 w4 hown4 hgrow4 _ _
      rw [← Htake.out] at hown4
      have Hb4 := Lib.hid (Hb3.out.grown hgrow4 Hb3.out.size (fun g' hg => (Hown.out.lt g' hg).1))
      have Hown4 := Lib.hid hown4
      clear hown4 hgrow4
      go_wp2_with fail
      exact ⟨⟨k + 1, by go_num, hlt, Hown4.out, Hb4.out⟩, by simp [intOf]; omega⟩
    · obtain rfl : k = n := Nat.le_antisymm hk hge
      go_wp2_with fail
      go_ret
      refine ⟨_, rfl, ?_, Hb.out⟩
      have h1 := Hown.out
      have e1 : l.take k = l := by rw [Hn.out]; exact List.take_length
      rw [e1] at h1
      exact h1
theorem fromFields_fsl (l : List HD.Fld) (v : Value) (w : World) (hl : l.length ≤ 2 ^ 40) (h : FSl w v l) :
    Calls Tryd.prog 34 #[v] w fun e w' => ∃ v', e = .returned v' ∧ w'.ownsRow w.heap.size 26 3 v' l.length (flds l) ∧ Below w.heap.size w w' := by
  obtain ⟨a, c, rfl, hc, h⟩ := h
  by_cases hne : l = []
  · subst hne
    exact fromFields_any [] a c w (by decide) (fun g o _ j u hu => by simp [flds] at hu) (fun h => absurd rfl h) (Nat.zero_le _)
  · obtain ⟨g, o, rfl, hcl⟩ := h hne
    exact fromFields_any l _ c w hl (fun g' o' e j u hu => by injection e with e; injection e with e1 e2; subst e1; subst e2; exact hcl j u hu) (fun _ => ⟨g, o, rfl⟩) hc
end Go.Proofs.YtjdmaflkafmmpaaDoor
/-
  A step of a decoder that tells no bytes: SetAllowedMaxDynamicTableSize, Close, SetEmitEnabled, EmitEnabled.
-/
namespace Go.Proofs.YtjdmaflkafmmpaaDoor
open Go.ChangeShapes Go.WideShapes Go.ChangeAt Go.RowKit

def ans0 : Array Value := #[.slice none 0 0, .slice none 0 0, .int .i64 0, .bool false, .int .i64 0, .int .i64 0]
/-- Memory when a step has been given its value. -/
theorem dec_world (w : World) (cs : Array Value) : Below w.heap.size w (((w.alloc (.cells cs 38)).alloc (.cells ans0 41)).alloc (.cells ans0 41)) ∧
    Row (((w.alloc (.cells cs 38)).alloc (.cells ans0 41)).alloc (.cells ans0 41)) (w.heap.size + 1) 6 (fun i => ans0.getD i undef) ∧
    Row (((w.alloc (.cells cs 38)).alloc (.cells ans0 41)).alloc (.cells ans0 41)) (w.heap.size + 1 + 1) 6 (fun i => ans0.getD i undef) := by
  have hf : ∀ i, i < 6 → ans0[i]? = some (ans0.getD i undef) := fun i hi => by
    rw [Array.getD_eq_getD_getElem?, Array.getElem?_eq_getElem (show i < ans0.size from hi)]; rfl
  refine ⟨(((Below.refl _ w).alloc (Nat.le_refl _) _).alloc (by simp) _).alloc (by simp; omega) _, ?_, ?_⟩
  · have h := Row.new (w.alloc (.cells cs 38)) 41 (by decide) (n := 6) rfl hf
    have hs : (w.alloc (.cells cs 38)).heap.size = w.heap.size + 1 := by simp
    rw [hs] at h
    exact h.alloc _
  · have h := Row.new ((w.alloc (.cells cs 38)).alloc (.cells ans0 41)) 41 (by decide) (n := 6) rfl hf
    have hs : ((w.alloc (.cells cs 38)).alloc (.cells ans0 41)).heap.size = w.heap.size + 1 + 1 := by simp
    rw [hs] at h
    exact h

theorem Row.notU8 {w : World} {b n : Nat} {f : Nat → Value} (h : Row w b n f) : ¬ IsU8 w b := by
  obtain ⟨cs, t, hb, -, -, ht⟩ := h
  rintro ⟨cs', fz, hb'⟩
  rw [hb] at hb'; injection hb' with hb'; injection hb' with _ hb' _; exact ht hb'
/-- Cells of the decoder's struct that tell its mode have changed. -/
theorem Live.mode {B : Nat} {w w' : World} {d : Nat} {M : Emitter} {s s' : HD.St} {l : List HD.Fld} {p : DP} (h : Live B w d M s l p) {f' : Nat → Value} (hr : Row w' d 16 f') (hf : ∀ i, i < 11 → i ≠ 7 → i ≠ 9 → f' i = p.f i) (h7 : f' 7 = .int .u32 (s'.allowed : Nat)) (h9 : f' 9 = .bool s'.on) (h15 : f' 15 = .bool s'.first)
    (he : s'.ents = s.ents) (hm : s'.max = s.max) (ha : s'.allowed ≤ 2 ^ 31) (ho : ∀ k, k ≠ d → p.own d k → w'.heap[k]? = w.heap[k]?) : Live B w' d M s' l { p with f := f' } := by
  have hT := h.mem.tab
  refine ⟨⟨?_, ⟨(hf 5 (by decide) (by decide) (by decide)).trans (by rw [he]; exact h.mem.sized.size), (hf 6 (by decide) (by decide) (by decide)).trans (by rw [hm]; exact h.mem.sized.max)⟩, h7, h9, (hf 10 (by decide) (by decide) (by decide)).trans h.mem.most, h15⟩,
    M.frame h.em fun k hk => ho k (fun e => h.dE (e ▸ hk)) (Or.inr hk), h.emB, (hf 8 (by decide) (by decide) (by decide)).trans h.emv, h.apart, ⟨by rw [he, hm]; exact h.ok.size, by rw [hm]; exact h.ok.max, ha, by rw [he]; exact h.ok.short⟩⟩
  rw [he]
  exact ⟨hr, hT.big, (hf 0 (by decide) (by decide) (by decide)).trans hT.c0, (hf 1 (by decide) (by decide) (by decide)).trans hT.c1, (hf 2 (by decide) (by decide) (by decide)).trans hT.c2, (hf 3 (by decide) (by decide) (by decide)).trans hT.c3, (hf 4 (by decide) (by decide) (by decide)).trans hT.c4,
    ownsRow_of_heap hT.own fun g hg => ho g (fun e => hT.ne (by rw [hg, e])) (Or.inl (Or.inr (Or.inl hg))), hT.ne, hT.mm, hT.lo, hT.map1.of_heap (ho _ (fun e => hT.b_m1 e.symm) (Or.inl (Or.inr (Or.inr (Or.inl rfl))))), hT.map2.of_heap (ho _ (fun e => hT.b_m2 e.symm) (Or.inl (Or.inr (Or.inr (Or.inr rfl)))))⟩

/-- The answer is put together. -/
theorem ans_upd (w1 : World) (n : Nat) (x0 x1 y0 y1 y2 y3 y4 y5 : Value) : Upd (fun i => i = n + 1 ∨ i = n + 1 + 1) w1 ((((((((w1.setCell ⟨n + 1 + 1, 4, none⟩ x0).setCell ⟨n + 1 + 1, 5, none⟩ x1).setCell ⟨n + 1, 0, none⟩ y0).setCell ⟨n + 1, 1, none⟩ y1).setCell ⟨n + 1, 2, none⟩ y2).setCell ⟨n + 1, 3, none⟩ y3).setCell ⟨n + 1, 4, none⟩ y4).setCell ⟨n + 1, 5, none⟩ y5) :=
  ((((((((Upd.refl _ w1).setCell (a := ⟨n + 1 + 1, 4, none⟩) (Or.inl (Or.inr rfl)) x0).setCell (a := ⟨n + 1 + 1, 5, none⟩) (Or.inl (Or.inr rfl)) x1).setCell (a := ⟨n + 1, 0, none⟩) (Or.inl (Or.inl rfl)) y0).setCell (a := ⟨n + 1, 1, none⟩) (Or.inl (Or.inl rfl)) y1).setCell (a := ⟨n + 1, 2, none⟩) (Or.inl (Or.inl rfl)) y2).setCell (a := ⟨n + 1, 3, none⟩) (Or.inl (Or.inl rfl)) y3).setCell (a := ⟨n + 1, 4, none⟩) (Or.inl (Or.inl rfl)) y4).setCell (a := ⟨n + 1, 5, none⟩) (Or.inl (Or.inl rfl)) y5

theorem DEnds.close {B : Nat} {w w1 w2 w3 wf : World} {d : Nat} {M : Emitter} {s : HD.St} {l : List HD.Fld} {p p' : DP} {N : Nat} {r : HD.DS × HD.Ans} {lv : Value} {nn : Int} (hL : Live B w d M s l p)
    (hl : Live B w1 d M r.1.st (l ++ r.2.out) p') (hs : Save B w1 d p'.f r.1.save) (ho : ∀ k, p'.own d k → p.own d k ∨ w.heap.size + 3 ≤ k) (hk : Kept B (p.own d) w w1) (hn : p'.cnt + r.1.st.ents.length + r.1.save.length ≤ N)
    (hf : FRow w1 (fun k => w.heap.size + 3 ≤ k ∧ k < w1.heap.size ∧ ¬ p'.own d k ∧ ¬ IsU8 w1 k) lv r.2.lst) {f1 f2 : Nat → Value} (hr1 : Row w1 (w.heap.size + 1) 6 f1) (hr2 : Row w1 (w.heap.size + 1 + 1) 6 f2)
    (hq1 : Upd (fun i => i = w.heap.size + 1 ∨ i = w.heap.size + 1 + 1) w1 w2) (hb : Below w2.heap.size w2 w3) (hq2 : Upd (fun i => i = w.heap.size + 1 ∨ i = w.heap.size + 1 + 1) w3 wf) :
    DEnds B w d M l p N r (.returned (.agg (ansCells (.slice none 0 0) lv nn r.2))) wf := by
  have hq : Upd (fun i => i = w.heap.size + 1 ∨ i = w.heap.size + 1 + 1) w1 wf := (hq1.step (Upd.of_below hb)).step hq2
  have hown : ∀ k, p'.own d k → wf.heap[k]? = w1.heap[k]? := fun k h => hq.block k (hl.own_lt h) (fun e => by
    rcases ho k h with h' | h'
    · have := hL.own_lt h'; omega
    · omega)
  refine ⟨p', lv, nn, rfl, hf.move (fun k hk => hq.block k hk.2.1 (fun e => by have := hk.1; omega)) (fun k hk => ⟨by omega, Nat.lt_of_lt_of_le hk.2.1 hq.size, hk.2.2.1, fun hu => hk.2.2.2 (hu.of_heap (hq.block k hk.2.1 (fun e => by have := hk.1; omega)).symm)⟩),
    hl.frame hown, hs.kept rfl rfl rfl (fun g hg => hq.block g (hs.u8 hg).lt ?_), fun k h => (ho k h).imp id (by omega), hk.trans (G := fun i => i = w.heap.size + 1 ∨ i = w.heap.size + 1 + 1) (Kept.of_upd hq hl.lo (fun k e => by have := hL.lo; omega)) (fun i hi e => by omega), hn⟩
  rintro (e | e)
  · exact hr1.notU8 (e ▸ hs.u8 hg)
  · exact hr2.notU8 (e ▸ hs.u8 hg)

set_option maxHeartbeats 4000000 in
set_option maxRecDepth 100000 in
theorem decAllow_any (B : Nat) (w : World) (d : Nat) (M : Emitter) (σ : HD.DS) (l : List HD.Fld) (p : DP) (aI aN aL : Addr) (n : Nat)
    (hL : Live B w d M σ.st l p) (hE : Env B w aI aN aL) (hV : Save B w d p.f σ.save) (hn : n ≤ 2 ^ 31) :
    Calls Tryd.prog 21 #[.pointer (some ⟨d, 0, none⟩), .agg #[.int .i64 6, .slice none 0 0, .int .i64 (n : Nat), .bool false]] w (DEnds B w d M l p (p.cnt + σ.st.ents.length + σ.save.length) (HD.dstep σ (.allow n))) := by
  have HL := Lib.hid hL
  have HE := Lib.hid hE
  have HV := Lib.hid hV
  clear hL hE hV
  have hnI : IntKind.u32.wrap (n : Int) = (n : Int) := by simp only [IntKind.wrap, IntKind.bits, IntKind.signed]; simp; omega
  have hd : d < w.heap.size := HL.out.lt
  obtain ⟨hb0, hr0, ha0⟩ := dec_world w #[.int .i64 6, .slice none 0 0, .int .i64 (n : Nat), .bool false]
  have HB0 := Lib.hid hb0
  have HR0 := Lib.hid hr0
  have HA0 := Lib.hid ha0
  clear hb0 hr0 ha0
  go_enter Tryd.func21, Tryd.ntmps21
  go_wp2_with fail
  refine (setAllowed_any d p.f (n : Nat) _ (HL.out.row.of_heap (HB0.out.block d hd)) _ HL.out.mem.allowed).mono ?_
  rintro e w1 ⟨rfl, hr1, hu1⟩
  have hkk : ∀ k, k = w.heap.size + 1 ∨ k = w.heap.size + 1 + 1 → w1.heap[k]? = _ := fun k hk => hu1.block k (by have := HA0.out.lt; omega) (by omega)
  have hrr := HR0.out.of_heap (hkk _ (Or.inl rfl))
  have hra := HA0.out.of_heap (hkk _ (Or.inr rfl))
  have Hr1 := Lib.hid hr1
  have Hu1 := Lib.hid hu1
  clear hr1 hu1 hkk
  go_wp2_with fail
  refine (codeOf_nil _).mono ?_
  rintro e w2 ⟨rfl, rfl⟩
  have a0 := hra.cell' (i := 0) (v := .slice none 0 0) (by decide) rfl
  have a1 := hra.cell' (i := 1) (v := .slice none 0 0) (by decide) rfl
  have a2 := hra.cell' (i := 2) (v := .int .i64 0) (by decide) rfl
  have a3 := hra.cell' (i := 3) (v := .bool false) (by decide) rfl
  have a4 := hra.cell' (i := 4) (v := .int .i64 0) (by decide) rfl
  have a5 := hra.cell' (i := 5) (v := .int .i64 0) (by decide) rfl
  have r0 := hrr.cell' (i := 0) (v := .slice none 0 0) (by decide) rfl
  have r1 := hrr.cell' (i := 1) (v := .slice none 0 0) (by decide) rfl
  have r2 := hrr.cell' (i := 2) (v := .int .i64 0) (by decide) rfl
  have r3 := hrr.cell' (i := 3) (v := .bool false) (by decide) rfl
  have r4 := hrr.cell' (i := 4) (v := .int .i64 0) (by decide) rfl
  have r5 := hrr.cell' (i := 5) (v := .int .i64 0) (by decide) rfl
  have fza := fun i => hra.unfrozen i none
  have fzr := fun i => hrr.unfrozen i none
  go_wp2_with fail
  (try simp only [Exit.inBlock, Exit.then])
  refine bodyPost_ret (v := .agg (ansCells (.slice none 0 0) (.slice none 0 0) 0 ⟨[], [], false, none⟩)) ?_ rfl ?_
  · simp only [results, Tryd.results21]
    go_simp
    rfl
  have hb1 : Below B w w1 := by
    have h1 := HB0.out.mono HL.out.lo
    exact h1.trans (Hu1.out.below (Nat.le_trans HL.out.lo HB0.out.size) (fun k e => by rw [e]; exact HL.out.mem.tab.lo.1))
  have hk1 : ∀ k, k ≠ d → k < w.heap.size → w1.heap[k]? = w.heap[k]? := fun k hk hlt => (Hu1.out.block k (Nat.lt_of_lt_of_le hlt HB0.out.size) hk).trans (HB0.out.block k hlt)
  have hl : Live B w1 d M { σ.st with allowed := n } (l ++ []) { p with f := putF p.f 7 (.int .u32 (n : Nat)) } := by
    rw [List.append_nil]
    exact HL.out.mode Hr1.out (fun i hi h7 h9 => by simp only [putF]; rw [if_neg h7]) (by simp [putF]) (by simp [putF, HL.out.mem.on]) (by simp [putF, HL.out.mem.first]) rfl rfl hn (fun k hne ho => hk1 k hne (HL.out.own_lt ho))
  refine DEnds.close (r := HD.dstep σ (.allow n)) (nn := 0) HL.out hl (HV.out.kept rfl rfl rfl (fun g hg => hk1 g (fun e => HV.out.ne (by rw [hg, e])) (HV.out.u8 hg).lt)) (fun k h => Or.inl h)
    ⟨hb1, fun k hlt hn _ => hk1 k (fun e => hn (e ▸ Or.inl (Or.inl rfl))) hlt⟩ (Nat.le_refl _) (FRow.nil _ _) hrr hra (Upd.refl _ _) (Below.refl _ _) (ans_upd w1 w.heap.size _ _ _ _ _ _ _ _)
end Go.Proofs.YtjdmaflkafmmpaaDoor
