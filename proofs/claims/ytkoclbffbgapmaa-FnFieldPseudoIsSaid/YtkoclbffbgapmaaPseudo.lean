/-
  The law FnFieldPseudoIs is proved whole: for every field, FieldPseudo tells whether the name begins with a colon. No condition.
-/
import Derived.Test.YtkoclbffbgapmaaRows
import Derived.Test.YtkoclbffbgapmaaLaw
import Derived.WalkKit
import Derived.WalkLawsBesides
import Derived.ProofKit
import Derived.OpenShut
import Derived.Outline
import Derived.Lib.SmallJoins
import Derived.Deep.QuietTactic
import Derived.BigQuiet
import Derived.Deep.RegionHeld3
namespace Go.Proofs.Ytkoclbffbgapmaa
open Go.ChangeShapes Go.WideShapes Go.ChangeAt Go.RowKit Go.Joins
set_option linter.unusedSimpArgs false

theorem fits1 (n v : ByteArray) (s : Bool) (w : World) :
    Calls Try.prog 5 #[.agg #[.string n, .string v, .bool s]] w fun e w' => ∃ b : Bool, e = .returned (.bool b) ∧ Below w.heap.size w w' := by
  go_enter Try.func5, Try.ntmps5
  go_wp2
  all_goals go_ret
  all_goals exact ⟨_, rfl, (Below.refl _ _).alloc (Nat.le_refl _) _⟩

theorem toField (n v : ByteArray) (s : Bool) (w : World) :
    Calls Try.prog 9 #[.agg #[.string n, .string v, .bool s]] w fun e w' => e = .returned (.agg #[.string n, .string v, .bool s]) ∧ Below w.heap.size w w' := by
  go_enter Try.func9, Try.ntmps9
  go_wp2
  exact bodyPost_ret (v := .agg #[.string n, .string v, .bool s]) (by simp [results, Try.results9, go_sem]) rfl ⟨rfl, ((Below.refl _ _).alloc (Nat.le_refl _) _).alloc (by simp) _⟩

/-- Whether a text begins with a colon. -/
def colon (n : ByteArray) : Bool := decide (0 < n.size) && (n[0]! == 58)

theorem empty_of {n : ByteArray} (h : ¬ 0 < n.size) : n = ByteArray.empty := by
  have : n.size = 0 := by omega
  exact ByteArray.size_eq_zero_iff.1 this

theorem isPseudo (n v : ByteArray) (s : Bool) (w : World) :
    Calls Try.prog 10 #[.agg #[.string n, .string v, .bool s]] w fun e w' => e = .returned (.bool (colon n)) ∧ Below w.heap.size w w' := by
  by_cases h : 0 < n.size
  · have hne : ¬ n = ByteArray.empty := by rintro rfl; simp at h
    have hc : ((n.size : Int) != 0) = true := by rw [bne_iff_ne]; omega
    go_enter Try.func10, Try.ntmps10
    go_wp2
    go_ret
    refine ⟨?_, (Below.refl _ _).alloc (Nat.le_refl _) _⟩
    have e : (((n[0]'h).toNat : Int) == 58) = (n[0]'h == 58) := by
      rw [Bool.eq_iff_iff]; simp [← UInt8.toNat_inj]; omega
    simp [colon, h, e]
  · obtain rfl := empty_of h
    go_enter Try.func10, Try.ntmps10
    go_wp2
    go_ret
    exact ⟨rfl, (Below.refl _ _).alloc (Nat.le_refl _) _⟩

theorem pseudo (n v : ByteArray) (s : Bool) (w : World) :
    Calls Try.prog 6 #[.agg #[.string n, .string v, .bool s]] w fun e w' => e = .returned (.bool (colon n)) ∧ Below w.heap.size w w' := by
  go_enter Try.func6, Try.ntmps6
  go_wp2_with (first | (go_at_call 9; refine (toField _ _ _ _).mono ?_; rintro e w1 ⟨rfl, hb1⟩) | (go_at_call 10; refine (isPseudo _ _ _ _).mono ?_; rintro e w2 ⟨rfl, hb2⟩))
  go_ret
  exact ⟨rfl, ((Below.refl _ _).alloc (Nat.le_refl _) _).trans ((hb1.mono (by simp)).trans (hb2.mono (by have := hb1.size; simp at this; omega)))⟩

theorem law (n v : ByteArray) (s : Bool) (w : World) :
    Calls Try.prog 3 #[.agg #[.string n, .string v, .bool s]] w fun e w' => e = .returned (.bool true) ∧ Below w.heap.size w w' := by
  have hcase : (0 < n.size ∧ ∃ _h : 0 < n.size, True) ∨ n = ByteArray.empty := by
    by_cases h : 0 < n.size
    · exact .inl ⟨h, h, trivial⟩
    · exact .inr (empty_of h)
  rcases hcase with ⟨h, _⟩ | rfl
  · have hc : decide ((0 : Int) < (n.size : Int)) = true := by simp; omega
    go_enter Try.func3, Try.ntmps3
    go_wp2_with (first | (go_at_call 5; refine (fits1 _ _ _ _).mono ?_; rintro e w1 ⟨b, rfl, hb1⟩; cases b))
    · go_ret
      exact ⟨rfl, ((Below.refl _ _).alloc (Nat.le_refl _) _).trans (hb1.mono (by simp))⟩
    · have c0 : w1.cell? ⟨w.heap.size, 0, none⟩ = some (.string n) := by rw [hb1.cell (by simp)]; simp
      have c1 : w1.cell? ⟨w.heap.size, 1, none⟩ = some (.string v) := by rw [hb1.cell (by simp)]; simp
      have c2 : w1.cell? ⟨w.heap.size, 2, none⟩ = some (.bool s) := by rw [hb1.cell (by simp)]; simp
      have hz : w.heap.size < w1.heap.size := by have := hb1.size; simp at this; omega
      have hb0 : Below w.heap.size w w1 := ((Below.refl _ _).alloc (Nat.le_refl _) _).trans (hb1.mono (by simp))
      clear hb1
      go_region_held3 (fun w' => w'.cell? ⟨w.heap.size, 0, none⟩ = some (.string n) ∧ w'.cell? ⟨w.heap.size, 1, none⟩ = some (.string v) ∧ w'.cell? ⟨w.heap.size, 2, none⟩ = some (.bool s)) (first | exact ⟨c0, c1, c2⟩ | (refine ⟨?_, ?_, ?_⟩ <;> (rw [hb2.cell (by simpa using hz)]; assumption))) (first | (go_at_call 6; refine (pseudo _ _ _ _).mono ?_; rintro e w2 ⟨rfl, hb2⟩))
      go_wp2
      go_ret
      refine ⟨?_, hb0.drew.trans (hb2.mono (Nat.le_of_lt hz))⟩
      have e : (((n[0]'h).toNat : Int) == 58) = (n[0]'h == 58) := by
        rw [Bool.eq_iff_iff]; simp [← UInt8.toNat_inj]; omega
      simp [colon, h, e]
  · go_enter Try.func3, Try.ntmps3
    go_wp2_with (first | (go_at_call 5; refine (fits1 _ _ _ _).mono ?_; rintro e w1 ⟨b, rfl, hb1⟩; cases b))
    · go_ret
      exact ⟨rfl, ((Below.refl _ _).alloc (Nat.le_refl _) _).trans (hb1.mono (by simp))⟩
    · have c0 : w1.cell? ⟨w.heap.size, 0, none⟩ = some (.string ByteArray.empty) := by rw [hb1.cell (by simp)]; simp
      have c1 : w1.cell? ⟨w.heap.size, 1, none⟩ = some (.string v) := by rw [hb1.cell (by simp)]; simp
      have c2 : w1.cell? ⟨w.heap.size, 2, none⟩ = some (.bool s) := by rw [hb1.cell (by simp)]; simp
      have hz : w.heap.size < w1.heap.size := by have := hb1.size; simp at this; omega
      have hb0 : Below w.heap.size w w1 := ((Below.refl _ _).alloc (Nat.le_refl _) _).trans (hb1.mono (by simp))
      clear hb1
      refine wp_region_held_drew (S := (fun w' => w'.cell? ⟨w.heap.size, 0, none⟩ = some (.string ByteArray.empty) ∧ w'.cell? ⟨w.heap.size, 1, none⟩ = some (.string v) ∧ w'.cell? ⟨w.heap.size, 2, none⟩ = some (.bool s))) (by kernel_rfl) (⟨c0, c1, c2⟩) (fun hHeld => ?_)
      refine takeH 0 (v := ?_) rfl rfl (by kernel_rfl) (by kernel_rfl) (by kernel_rfl) (fun _ _ _ h => h) (Or.inl ⟨by rfl, ?_⟩) (by assumption) ?_
      rotate_left
      · (intro w hSw; (try dsimp only at hSw); go_simp <;> with_reducible rfl)
      simp only [List.setIfInBounds_toArray, List.set_cons_zero, List.set_cons_succ]
      refine takeH 2 (v := ?_) rfl rfl (by kernel_rfl) (by kernel_rfl) (by kernel_rfl) (fun _ _ _ h => h) (Or.inl ⟨by rfl, ?_⟩) (by assumption) ?_
      rotate_left
      · (intro w hSw; (try dsimp only at hSw); go_simp <;> with_reducible rfl)
      simp only [List.setIfInBounds_toArray, List.set_cons_zero, List.set_cons_succ]
      refine takeH 3 (v := ?_) rfl rfl (by kernel_rfl) (by kernel_rfl) (by kernel_rfl) (fun _ _ _ h => h) (Or.inl ⟨by rfl, ?_⟩) (by assumption) ?_
      rotate_left
      · (intro w hSw; (try dsimp only at hSw); go_simp <;> with_reducible rfl)
      simp only [List.setIfInBounds_toArray, List.set_cons_zero, List.set_cons_succ]
      refine takeH 4 (v := ?_) rfl rfl (by kernel_rfl) (by kernel_rfl) (by kernel_rfl) (fun _ _ _ h => h) (Or.inl ⟨by rfl, ?_⟩) (by assumption) ?_
      rotate_left
      · (intro w hSw; (try dsimp only at hSw); go_simp <;> with_reducible rfl)
      simp only [List.setIfInBounds_toArray, List.set_cons_zero, List.set_cons_succ]
      refine takeH 5 (v := ?_) rfl rfl (by kernel_rfl) (by kernel_rfl) (by kernel_rfl) (fun _ _ _ h => h) (Or.inl ⟨by rfl, ?_⟩) (by assumption) ?_
      rotate_left
      · (intro w hSw; (try dsimp only at hSw); go_simp <;> with_reducible rfl)
      simp only [List.setIfInBounds_toArray, List.set_cons_zero, List.set_cons_succ]
      refine wpAnyH_ready (rs := [1]) (by kernel_rfl) (by simp) ?_
      refine AllReadyH.cons rfl (fun K hK => ?_) AllReadyH.nil
      go_simp
      refine (pseudo _ _ _ _).mono ?_
      rintro e w2 ⟨rfl, hb2⟩
      refine hK.out _ _ (by refine ⟨?_, ?_, ?_⟩ <;> (rw [hb2.cell (by simpa using hz)]; assumption)) (fun hHeld => ?_)
      clear hK K
      refine takeH 6 (v := ?_) rfl rfl (by kernel_rfl) (by kernel_rfl) (by kernel_rfl) (fun _ _ _ h => h) (Or.inl ⟨by rfl, ?_⟩) (by assumption) ?_
      rotate_left
      · (intro w hSw; (try dsimp only at hSw); go_simp <;> with_reducible rfl)
      simp only [List.setIfInBounds_toArray, List.set_cons_zero, List.set_cons_succ]
      refine takeH 7 (v := undef) rfl rfl (by kernel_rfl) (by kernel_rfl) (by kernel_rfl) (fun _ _ _ h => h) (Or.inr ⟨by rfl, rfl⟩) (by assumption) ?_
      simp only [List.setIfInBounds_toArray, List.set_cons_zero, List.set_cons_succ]
      refine takeH 8 (v := undef) rfl rfl (by kernel_rfl) (by kernel_rfl) (by kernel_rfl) (fun _ _ _ h => h) (Or.inr ⟨by rfl, rfl⟩) (by assumption) ?_
      simp only [List.setIfInBounds_toArray, List.set_cons_zero, List.set_cons_succ]
      refine takeH 9 (v := undef) rfl rfl (by kernel_rfl) (by kernel_rfl) (by kernel_rfl) (fun _ _ _ h => h) (Or.inr ⟨by rfl, rfl⟩) (by assumption) ?_
      simp only [List.setIfInBounds_toArray, List.set_cons_zero, List.set_cons_succ]
      refine takeH 10 (v := undef) rfl rfl (by kernel_rfl) (by kernel_rfl) (by kernel_rfl) (fun _ _ _ h => h) (Or.inr ⟨by rfl, rfl⟩) (by assumption) ?_
      simp only [List.setIfInBounds_toArray, List.set_cons_zero, List.set_cons_succ]
      refine takeH 11 (v := ?_) rfl rfl (by kernel_rfl) (by kernel_rfl) (by kernel_rfl) (fun _ _ _ h => h) (Or.inl ⟨by rfl, ?_⟩) (by assumption) ?_
      rotate_left
      · (intro w hSw; (try dsimp only at hSw); go_simp <;> with_reducible rfl)
      simp only [List.setIfInBounds_toArray, List.set_cons_zero, List.set_cons_succ]
      refine takeH 12 (v := ?_) rfl rfl (by kernel_rfl) (by kernel_rfl) (by kernel_rfl) (fun _ _ _ h => h) (Or.inl ⟨by rfl, ?_⟩) (by assumption) ?_
      rotate_left
      · (intro w hSw; (try dsimp only at hSw); go_simp <;> with_reducible rfl)
      simp only [List.setIfInBounds_toArray, List.set_cons_zero, List.set_cons_succ]
      refine takeH 13 (v := ?_) rfl rfl (by kernel_rfl) (by kernel_rfl) (by kernel_rfl) (fun _ _ _ h => h) (Or.inl ⟨by rfl, ?_⟩) (by assumption) ?_
      rotate_left
      · (intro w hSw; (try dsimp only at hSw); go_simp <;> with_reducible rfl)
      simp only [List.setIfInBounds_toArray, List.set_cons_zero, List.set_cons_succ]
      refine wpAnyH_done (by kernel_rfl) ?_ _
      go_wp2
      go_ret
      exact ⟨rfl, hb0.drew.trans (hb2.mono (Nat.le_of_lt hz))⟩

theorem own : ownKnob Try.prog.godebug = none := by kernel_rfl
theorem laidOut : laidOutB Try.prog = true := by kernel_rfl
theorem cellsField : Try.prog.cellsOf 23 = 3 := by kernel_rfl

namespace FnFieldPseudoIs
set_option maxRecDepth 100000 in
theorem lifted (os : Os) (started : os.Started) (H : Type) (enc : TypeId × Value → H) :
    ReturnsInHanded {} Try.checked os 3 .any (Rows.fnFieldPseudoIsSpec.pre6 enc Try.prog Try.f3 Rows.fnFieldPseudoIsRow.domain false) (Rows.fnFieldPseudoIsSpec.post enc Try.prog Try.f3 false true false false) := by
  refine returnsInHanded_of_change (C := Try.checked) own started (by kernel_rfl) Try.func3
    (ChangeSpec.witness6 (enc := enc) (C := Try.checked) false ⟨#[], #[.agg #[.string ByteArray.empty, .string ByteArray.empty, .bool false]], []⟩ 8 (by kernel_rfl) (by kernel_rfl) (by kernel_rfl) (by kernel_rfl)) ?_
  intro W base args ds gs before hval0 hW _ _
  have hval : ∀ (j : Nat) t v, Try.f3.params[j]? = some t → args[j]? = some v → Value.okWide Try.prog W .any base t v := hval0
  have hW' := hW
  obtain ⟨p, q, hA0, hV, rfl, _, _⟩ := hW
  have hA : DataW.TrodAll enc Try.prog W 0 (fun _ => true) true Try.f3.params.toList args.toList ds p := hA0
  rw [Try.params3] at hA hval
  obtain ⟨v0, d0, rfl, rfl, h0⟩ := trodAll_one hA
  obtain ⟨rfl, rfl⟩ := trodVars_none hV
  obtain ⟨c0, c1, c2, y0, y1, y2, m, rfl, rfl, rfl, hy0, hy1, hy2⟩ := open_agg3 Try.underlying23 (by kernel_rfl) cellsField (hval 0 23 v0 rfl rfl) h0
  obtain ⟨n, e0, -, -⟩ := DataW.trod_string Try.underlying9 hy0
  obtain ⟨v, e1, -, -⟩ := DataW.trod_string Try.underlying9 hy1
  obtain ⟨b, e2, -⟩ := DataW.trod_bool Try.underlying4 hy2
  simp at e0 e1 e2
  subst e0 e1 e2
  refine (law n v b W).mono fun e W' ⟨he, hb⟩ => ?_
  subst he
  exact ⟨_, rfl, post_law laidOut (by rw [Try.params3]; intro t ht; simp at ht; subst ht; exact ⟨by kernel_rfl, of_decide_eq_true (by kernel_rfl)⟩) rfl Try.underlying4 rfl rfl hW' hb⟩

theorem proved : Rows.FnFieldPseudoIsSaid :=
  OpenClaim.holds_of_wide 3 Try.f3 rfl rfl rfl rfl rfl rfl rfl ⟨rfl, rfl, rfl, rfl, rfl⟩ rfl rfl rfl rfl rfl (by kernel_rfl) Try.func3 (by kernel_rfl)
    (of_decide_eq_true (by kernel_rfl)) (by unfold Func.isWrapper; first | (rw [if_pos (by decide +kernel)]; kernel_rfl) | (rw [if_neg (by decide +kernel)]; exact ⟨rfl, rfl⟩))
    (fun os started H enc _ => lifted os started H enc)
end FnFieldPseudoIs
#print axioms FnFieldPseudoIs.proved
end Go.Proofs.Ytkoclbffbgapmaa
