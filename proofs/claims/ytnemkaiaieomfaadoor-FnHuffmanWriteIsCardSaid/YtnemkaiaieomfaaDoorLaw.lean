/-
  How every law of this seat is closed: where the call returns true and nothing that was there before has changed, the row's post holds. Over any program. No condition.
-/
import Derived.WalkKit
import Derived.ProofKit
import Derived.OpenShut
import Derived.Deep.RegionHeld3
import Derived.OpenVars
namespace Go.Proofs.YtnemkaiaieomfaaDoor
open Go.ChangeShapes Go.WideShapes Go.ChangeAt Go.RowKit

/-- A region that draws its order, walked by hand: number i is taken first, its value written into slot d. -/
theorem takeH {P : Program} {ops : Array Oper} {Q : Exit → Act → World → Prop} {md : Region.Mode} {S : World → Prop} (i : Nat) {d : Nat} {oi : Oper} {v : Value} {fuel : Nat} {listed : Array Bool} {a : Act} {w : World} (hi : ops[i]? = some oi) (hd : oi.dst = some d)
    (hs : Region.noSelect ops = true) (hf : Region.free md ops listed i = true) (hr : (Region.ready md ops listed).contains i = true)
    (hQ : ∀ c a w, Q (.panic c) (a.put oi.dst v) w → Q (.panic c) a w) (hy : YieldsIf P ops S oi v a) (hS : S w)
    (h : wpAnyH P md ops Q S fuel (listed.setIfInBounds i true) { a with tmps := a.tmps.setIfInBounds d v } w) : wpAnyH P md ops Q S (fuel + 1) listed a w :=
  wpAnyH_take hi hs hf hr hQ hy hS (by rw [hd]; exact h)

theorem ret_int {k : IntKind} {a b : Int} (h : a = b) : Ending.returned (.int k a) = .returned (.int k b) := by rw [h]
theorem ret_bool {a b : Bool} (h : a = b) : Ending.returned (.bool a) = .returned (.bool b) := by rw [h]

/-- What was read of the arguments is read again where old memory has not changed. -/
theorem trodAll_stays {H : Type} {enc : TypeId × Value → H} {P : Program} (hl : laidOutB P = true) {W W' : World} (hb : Below W.heap.size W W') :
    ∀ (ts : List TypeId) (vs : List Value) (ds : List (DataW H)) (ps : List MemPlace), (∀ t ∈ ts, P.readableRec t = true ∧ t < P.types.size) →
      (∀ p ∈ ps, p.block < W.heap.size) → DataW.TrodAll enc P W 0 (fun _ => true) true ts vs ds ps →
      DataW.TrodAll enc P W' 0 (fun b => decide (b < W.heap.size)) true ts vs ds ps := by
  intro ts
  induction ts with
  | nil =>
    intro vs ds ps _ _ h
    obtain ⟨rfl, rfl, rfl⟩ := trodAll_nil h
    exact trodAll_mk0
  | cons t ts ih =>
    intro vs ds ps hr hlt h
    obtain ⟨v0, vs0, d0, ds0, p0, q0, rfl, rfl, rfl, h0, r0⟩ := trodAll_cons h
    refine trodAll_cons_mk ?_ (ih _ _ _ (fun t ht => hr t (List.mem_cons_of_mem _ ht)) (fun p hp => hlt p (List.mem_append_right _ hp)) r0)
    exact Below.trod hl (hr t List.mem_cons_self).1 (hr t List.mem_cons_self).2 h0 hb (fun p hp => hlt p (List.mem_append_left _ hp))

theorem post_law {H : Type} {enc : TypeId × Value → H} {P : Program} {f : Func} {s : ChangeSpec} {apart fresh handsOn : Bool} {W W' : World} {args : Array Value} {ds gs : List (DataW H)} {before : List MemPlace} {tb : TypeId}
    (hl : laidOutB P = true) (hr : ∀ t ∈ f.params.toList, P.readableRec t = true ∧ t < P.types.size) (hres : f.resultTypes = #[tb]) (hbool : P.underlying tb = some .bool) (hv : varsRowed P s.vars = true)
    (hfn : s.fn H (ds ++ gs) = { results := [.lit (.bool true)], args := ds, vars := gs })
    (hW : DataW.Whole enc P f.params.toList s.vars apart W args.toList ds gs before) (hb : Below W.heap.size W W') :
    s.post enc P f apart fresh handsOn false W args (.bool true) W' := by
  have hlt : ∀ p ∈ before, p.block < W.heap.size := fun p hp => hW.lt p hp
  have hW0 := hW
  obtain ⟨pa, pv, hA, hV, rfl, _, _⟩ := hW
  refine ⟨ds, gs, _, [], pa, pv, hW0, ?_, ?_, ?_, hb.frame _, fun h => by cases h⟩
  · rw [hfn, hres]
    exact trodAll_mk1 (shut_bool hbool _)
  · rw [hfn]
    exact trodAll_stays hl hb _ _ _ _ hr (fun p hp => hlt p (List.mem_append_left _ hp)) hA
  · rw [hfn]
    exact Below.trodVars hl hb hv hV

/-- As many readings as named variables. -/
theorem trodVars_length {H : Type} {enc : TypeId × Value → H} {P : Program} {w : World} {sp : Nat → Bool} : ∀ (ns : List String) (gs : List (DataW H)) (ps : List MemPlace), DataW.TrodVars enc P w sp ns gs ps → gs.length = ns.length
  | [], [], _, _ => rfl
  | [], _ :: _, _, h => h.elim
  | _ :: _, [], _, h => h.elim
  | _ :: ns, _ :: gs, _, h => by
    obtain ⟨_, _, _, _, _, q, _, _, _, _, h', _⟩ := h
    simp [trodVars_length ns gs q h']
theorem list0 {α : Type} {l : List α} (h : l.length = 0) : l = [] := List.eq_nil_of_length_eq_zero h
theorem list1 {α : Type} {l : List α} (h : l.length = 1) : ∃ g0, l = [g0] := by
  match l, h with
  | [g0], _ => exact ⟨g0, rfl⟩
theorem list2 {α : Type} {l : List α} (h : l.length = 2) : ∃ g0 g1, l = [g0, g1] := by
  match l, h with
  | [g0, g1], _ => exact ⟨g0, g1, rfl⟩
theorem list3 {α : Type} {l : List α} (h : l.length = 3) : ∃ g0 g1 g2, l = [g0, g1, g2] := by
  match l, h with
  | [g0, g1, g2], _ => exact ⟨g0, g1, g2, rfl⟩
theorem list4 {α : Type} {l : List α} (h : l.length = 4) : ∃ g0 g1 g2 g3, l = [g0, g1, g2, g3] := by
  match l, h with
  | [g0, g1, g2, g3], _ => exact ⟨g0, g1, g2, g3, rfl⟩
theorem list5 {α : Type} {l : List α} (h : l.length = 5) : ∃ g0 g1 g2 g3 g4, l = [g0, g1, g2, g3, g4] := by
  match l, h with
  | [g0, g1, g2, g3, g4], _ => exact ⟨g0, g1, g2, g3, g4, rfl⟩
theorem list6 {α : Type} {l : List α} (h : l.length = 6) : ∃ g0 g1 g2 g3 g4 g5, l = [g0, g1, g2, g3, g4, g5] := by
  match l, h with
  | [g0, g1, g2, g3, g4, g5], _ => exact ⟨g0, g1, g2, g3, g4, g5, rfl⟩
theorem list7 {α : Type} {l : List α} (h : l.length = 7) : ∃ g0 g1 g2 g3 g4 g5 g6, l = [g0, g1, g2, g3, g4, g5, g6] := by
  match l, h with
  | [g0, g1, g2, g3, g4, g5, g6], _ => exact ⟨g0, g1, g2, g3, g4, g5, g6, rfl⟩

#print axioms post_law
end Go.Proofs.YtnemkaiaieomfaaDoor
