/-
  The contract of getRootHuffmanNode: the tree lies in new memory.
-/
import Derived.Test.YtnemkaiaieomfaaDoorRowm
import Derived.Test.YtnemkaiaieomfaaDoorAppNil
import Derived.Deep.Cut
namespace Go.Proofs.YtnemkaiaieomfaaDoor
open Go.ChangeShapes Go.WideShapes Go.ChangeAt Go.RowKit

/-- A whole array is loaded whose cells are known. -/
theorem wpList_load_cells {P : Program} {ops : Array Oper} {rest : List Oper} {o : Oper} {a : Act} {w : World} {Q : Exit → Act → World → Prop} (hgd : o.guard = none) (ty : TypeId) (x : Operand) (ho : o.op = .load ty x)
    (g : Nat) (hx : a.eval x = .pointer (some ⟨g, 0, none⟩)) (cs : List Value) (d : TypeDesc) (hg : ∀ i v, cs[i]? = some v → w.cell? ⟨g, i, none⟩ = some v)
    (hu : P.underlying ty = some d) (hd : (match d with | .struct _ | .array _ _ => true | _ => false) = true) (hi : (P.info? ty).map (·.size) = some cs.length)
    (h : wpList P ops Q rest (a.put o.dst (.agg cs.toArray)) w) : wpList P ops Q (o :: rest) a w := by
  refine wpList_plain hgd fun K hK => ?_
  have hl : (loadVar ty ⟨g, 0, none⟩).run P w = .ok (.agg cs.toArray) w := by
    have hl : (loadCells ⟨g, 0, none⟩ cs.length).run P w = .ok cs.toArray w :=
      run_loadCells_list (P := P) w ⟨g, 0, none⟩ cs (fun j v hv => by
        have hadd : (⟨g, 0, none⟩ : Addr).add j = ⟨g, j, none⟩ := by unfold Addr.add; split <;> simp_all
        rw [hadd]; exact hg j v hv)
    cases hq : P.info? ty with
    | none => simp [hq] at hi
    | some i =>
      have hs : i.size = cs.length := by simpa [hq] using hi
      have hagg : (isAgg ty).run P w = .ok true w := by
        unfold isAgg
        rw [Sem.run_bind, run_underlying hu w]
        cases d <;> simp_all
      simp [loadVar, Sem.run_bind, hagg, sizeOf, typeInfo, hq, hs, hl]
  unfold Oper.wp execOp
  simp only [ho, hx, Instr.loadAt, Instr.sureAddr, Sem.run_bind, Sem.run_pure, Result.andThen_ok, hl]
  exact hK _ _ h

def codeVals : List Value := (List.range 256).map fun i => .int .u32 (HP.hcode i : Nat)
theorem codeVals_len : codeVals.length = 256 := by simp [codeVals]
theorem codeVals_at {i : Nat} (h : i < 256) : codeVals.toArray[i]? = some (.int .u32 (HP.hcode i : Nat)) := by simp [codeVals, h]
theorem codeVals_cell {w : World} (h : CodeTab w) (i : Nat) (v : Value) (hv : codeVals[i]? = some v) : w.cell? ⟨1, i, none⟩ = some v := by
  have hi : i < 256 := by
    rcases Nat.lt_or_ge i 256 with h' | h'
    · exact h'
    · rw [List.getElem?_eq_none (by rw [codeVals_len]; exact h')] at hv; cases hv
  rw [h i hi]
  simp [codeVals, hi] at hv
  rw [hv]

def leaves0 : Array Value := Array.ofFn (n := 768) fun i => leafV 0 i.val
theorem leaves0_size : leaves0.size = 768 := by simp [leaves0]
theorem leaves0_ne : leaves0 ≠ #[] := fun h => by have := leaves0_size; rw [h] at this; cases this
theorem leaves0_at : ∀ i, i < 768 → leaves0[i]? = some (leafV 0 i) := fun i hi => by simp [leaves0, hi]
theorem zero79 : ∀ w, (zeroValue 79).run Tryd.prog w = .ok (.agg leaves0) w := zero_of (by kernel_rfl)

theorem infoU32 : (Tryd.prog.info? 50).map (fun i => (i.zero, i.size)) = some (some (.int .u32 0), 1) := by kernel_rfl
theorem index_code {cv : Array Value} {s : Nat} {v : Int} (hs : s < 256) (h : cv[s]? = some (.int .u32 v)) (w : World) : (Instr.index 51 (.agg cv) (.int .i64 s)).run Tryd.prog w = .ok (.int .u32 v) w := by
  cases hq : Tryd.prog.info? 50 with
  | none => have := infoU32; rw [hq] at this; cases this
  | some i =>
    have := infoU32
    rw [hq] at this
    simp at this
    simp [Instr.index, run_underlying Tryd.underlying51, run_underlying Tryd.underlying50, asIntOf, sizeOf, typeInfo, hq, this.2, part, isAgg, h, hs]

def LogOK (t : HP.TB) : Prop := ∀ e ∈ t.log, e.1 < t.n
theorem LogOK.fresh {t : HP.TB} (h : LogOK t) : ∀ i, HP.lookL t.log t.n i = .none := by
  intro i
  have key : ∀ l : HP.Log, (∀ e ∈ l, e.1 < t.n) → HP.lookL l t.n i = .none := by
    intro l
    induction l with
    | nil => intro _; rfl
    | cons e l ih =>
      intro hl
      obtain ⟨k', s, c, e⟩ := e
      simp only [HP.lookL]
      rw [if_neg (by have := hl _ List.mem_cons_self; simp at this; omega)]
      exact ih fun e he => hl e (List.mem_cons_of_mem _ he)
  exact key _ h

theorem logOK0 : LogOK ⟨1, []⟩ := fun e he => by cases he

theorem LogOK.grow {t : HP.TB} (h : LogOK t) {k : Nat} (hk : k < t.n) {s c : Nat} {e : HP.Ent} : LogOK ⟨t.n + 1, (k, s, c, e) :: t.log⟩ := by
  intro x hx
  rcases List.mem_cons.1 hx with rfl | hx
  · exact Nat.lt_succ_of_lt hk
  · exact Nat.lt_succ_of_lt (h x hx)
theorem LogOK.more {t : HP.TB} (h : LogOK t) {k : Nat} (hk : k < t.n) {s c : Nat} {e : HP.Ent} : LogOK ⟨t.n, (k, s, c, e) :: t.log⟩ := by
  intro x hx
  rcases List.mem_cons.1 hx with rfl | hx
  · exact hk
  · exact h x hx

theorem code_bound (s : Nat) (h : s < 256) : 5 ≤ HP.hlen s ∧ HP.hlen s ≤ 30 ∧ HP.hcode s < 2 ^ HP.hlen s := by
  have := List.all_eq_true.1 HP.code_bounds s (by simpa using h)
  simp at this
  omega
theorem desc_done {f : Nat} {t : HP.TB} {cur code cl : Nat} (h : cl ≤ 8) : HP.desc f t cur code cl = some (t, cur, cl) := by cases f <;> simp [HP.desc, h]
theorem desc_step {f : Nat} {t : HP.TB} {cur code cl : Nat} {R : HP.TB × Nat × Nat} (h : HP.desc f t cur code (cl + 8) = some R) (h8 : 1 ≤ cl) :
    (∃ f' k, HP.lookL t.log cur (code / 2 ^ cl % 256) = .inner k ∧ k < t.n ∧ HP.desc f' t k code cl = some R) ∨
    (∃ f', HP.lookL t.log cur (code / 2 ^ cl % 256) = .none ∧ HP.desc f' ⟨t.n + 1, (cur, code / 2 ^ cl % 256, 1, .inner t.n) :: t.log⟩ t.n code cl = some R) := by
  have h9 : ¬ cl + 8 ≤ 8 := by omega
  cases f with
  | zero => simp [HP.desc, h9] at h
  | succ f =>
    simp only [HP.desc, h9, if_false, Nat.add_sub_cancel] at h
    split at h
    · rename_i k hk
      by_cases hkn : k < t.n
      · rw [if_pos hkn] at h; exact Or.inl ⟨f, k, hk, hkn, h⟩
      · rw [if_neg hkn] at h; cases h
    · cases h
    · rename_i hk; exact Or.inr ⟨f, hk, h⟩
theorem tbAt_step {s : Nat} {t : HP.TB} (hs : s < 256) (h : HP.tbAt s = some t) : ∃ R t', HP.desc 4 t 0 (HP.hcode s) (HP.hlen s) = some R ∧ HP.addLeaf R s (HP.hcode s) = some t' ∧ HP.tbAt (s + 1) = some t' := by
  obtain ⟨t', ht'⟩ := HP.tbAt_some (show s + 1 ≤ 256 by omega)
  have h2 := ht'
  rw [HP.tbAt, h] at h2
  simp only [HP.addSym] at h2
  cases hd : HP.desc 4 t 0 (HP.hcode s) (HP.hlen s) with
  | none => rw [hd] at h2; cases h2
  | some R => rw [hd] at h2; exact ⟨R, t', rfl, h2, ht'⟩

theorem leafV_new {s : Nat} (r : Nat) (h1 : r ≠ 0) (h3 : r < 3) : leafV s (s * 3 + r) = .int .u8 0 := by
  unfold leafV
  rw [if_neg (by omega), if_neg (by omega)]
theorem leafV_next {s cl : Nat} (h : cl8 s = cl) (i : Nat) (_hi : i < 768) : (if i = s * 3 + 1 then Value.int .u8 (cl : Nat) else if i = s * 3 + 2 then .int .u8 (s : Nat) else leafV s i) = leafV (s + 1) i := by
  subst h
  by_cases h1 : i = s * 3 + 1
  · subst h1
    have e : (s * 3 + 1) / 3 = s := by omega
    unfold leafV
    rw [if_pos rfl, if_neg (by omega), if_pos (by omega), if_pos (by omega), e]
  · by_cases h2 : i = s * 3 + 2
    · subst h2
      have e : (s * 3 + 2) / 3 = s := by omega
      unfold leafV
      rw [if_neg (by omega), if_pos rfl, if_neg (by omega), if_pos (by omega), if_neg (by omega), e]
    · rw [if_neg h1, if_neg h2]
      unfold leafV
      by_cases h0 : i % 3 = 0
      · rw [if_pos h0, if_pos h0]
      · by_cases h5 : i / 3 < s
        · simp only [h0, h5, show i / 3 < s + 1 by omega, if_true, if_false]
        · simp only [h0, h5, show ¬ i / 3 < s + 1 by omega, if_false]

set_option maxRecDepth 100000 in
set_option maxHeartbeats 1000000 in
theorem tree_any (w : World) (hl : LenTab w) (hc : CodeTab w) :
    Calls Tryd.prog 21 #[] w fun e w' => e = .returned (.pointer (some ⟨w.heap.size + 1, 0, none⟩)) ∧ TreeMem w.heap.size (leafV 256) ⟨15, HP.finalL⟩ w' ∧ Below w.heap.size w w' := by
  have Hl := Lib.hid hl
  have Hc := Lib.hid hc
  clear hl hc
  go_enter Tryd.func21, Tryd.ntmps21
  go_wp2_with fail
  refine (newNode_any w).mono ?_
  rintro e w1 ⟨rfl, rfl⟩
  have ht : TreeMem w.heap.size (leafV 0) ⟨1, []⟩ ((withNode w).alloc (.cells leaves0 79)) := treeMem_first w (by decide) leaves0_size leaves0_at
  have hz := zero79
  have hne := leaves0_ne
  have hb : Below w.heap.size w ((withNode w).alloc (.cells leaves0 79)) := (((Below.refl _ _).alloc (Nat.le_refl _) _).alloc (by simp) _).alloc (by simp; omega) _
  have e2 : (withNode w).heap.size = w.heap.size + 2 := by simp [withNode]
  generalize leaves0 = ls at *
  have HT := Lib.hid ht
  have HB := Lib.hid hb
  clear ht hb
  have HE := Lib.hid e2
  clear e2
  have CT := Lib.hid (codeVals_cell (Hc.out.below HB.out Hc.out.lt))
  go_wp2_with (refine wpList_load_cells rfl 51 _ rfl 1 rfl codeVals _ CT.out Tryd.underlying51 rfl (by rw [codeVals_len]; kernel_rfl) ?_)
  rw [HE.out, show (w.heap.size + 1 : Nat) = nodeB w.heap.size 0 from rfl]
  generalize hN : w.heap.size = N at *
  have HN := Lib.hid hN
  clear hN CT HE
  go_loopw [16] (fun i wr => ∃ (s : Nat) (t : HP.TB), s ≤ 256 ∧ i = .int .i64 s ∧ HP.tbAt s = some t ∧ LogOK t ∧ TreeMem N (leafV s) t wr ∧ Below N w wr) (fun i _ => 256 - (intOf i).toNat)
  case atStart => exact ⟨0, _, Nat.zero_le _, rfl, rfl, logOK0, HT.out, HB.out⟩
  case round =>
    obtain ⟨s, t, hs, rfl, htb, hlog, hmem, hbel⟩ := hrel
    have Htb := Lib.hid htb
    have Hlog := Lib.hid hlog
    have Hmem := Lib.hid hmem
    have Hbel := Lib.hid hbel
    clear htb hlog hmem hbel HT HB
    by_cases hlt : s < 256
    · have hcode := codeVals_at hlt
      have hlen := (Hl.out.below Hbel.out (by have := LenTab.lt Hl.out; have := HN.out; omega)) s hlt
      have hl30 := hlen_lt s hlt
      generalize codeVals.toArray = cv at *
      have hix := index_code hlt hcode
      clear hcode
      obtain ⟨R, t', hdesc, hleaf, htb'⟩ := tbAt_step hlt Htb.out
      have Hdesc := Lib.hid hdesc
      have Hleaf := Lib.hid hleaf
      have Htb' := Lib.hid htb'
      have hcb := (code_bound s hlt)
      clear hdesc hleaf htb'
      go_wp2_with fail
      rw [show decide ((s : Int) < 256) = true by simp; omega]
      generalize HP.hcode s = code at *
      generalize hcl : HP.hlen s = len at *
      go_loopw [5, 6] (fun c5 p6 wr => ∃ (f : Nat) (t1 : HP.TB) (cur cl : Nat), c5 = .int .u8 cl ∧ p6 = .pointer (some ⟨nodeB N cur, 0, none⟩) ∧ 1 ≤ cl ∧ cl ≤ 30 ∧ (∃ m, len = cl + 8 * m) ∧ cur < t1.n ∧ HP.desc f t1 cur code cl = some R ∧ LogOK t1 ∧ TreeMem N (leafV s) t1 wr ∧ Below N w wr) (fun c5 _ _ => (intOf c5).toNat)
      case atStart => exact ⟨4, t, 0, len, rfl, rfl, by omega, by omega, ⟨0, by omega⟩, Hmem.out.pos, Hdesc.out, Hlog.out, Hmem.out, Hbel.out⟩
      case round =>
        obtain ⟨f, t1, cur, cl, rfl, rfl, h1, h30, ⟨m, hm⟩, hcur, hdesc, hlog, hmem, hbel⟩ := hrel
        have Hm := Lib.hid hm
        clear hm
        have Hd1 := Lib.hid hdesc
        have Hlog1 := Lib.hid hlog
        have Hmem1 := Lib.hid hmem
        have Hbel1 := Lib.hid hbel
        clear hdesc hlog hmem hbel
        by_cases h8 : 8 < cl
        · obtain ⟨c, rfl⟩ : ∃ c, cl = c + 8 := ⟨cl - 8, by omega⟩
          have hm8 : ∃ m, len = c + 8 * m := ⟨m + 1, by have := Hm.out; omega⟩
          have hn := (Hmem1.out.node cur hcur).cell' (i := 0) (by decide) rfl
          rw [show nodeV N cur 0 = .pointer (some ⟨rowB N cur, 0, none⟩) from rfl] at hn
          go_upto_region 12 with (fail)
          rw [show (code : Int) / 2 ^ c % 256 = ((code / 2 ^ c % 256 : Nat) : Int) by simp]
          have hx : code / 2 ^ c % 256 < 256 := Nat.mod_lt _ (by decide)
          rcases desc_step Hd1.out (by omega) with ⟨f', k, hk, hkn, hd'⟩ | ⟨f', hk, hd'⟩
          · have hr := (Hmem1.out.row cur hcur).cell hx
            rw [hk] at hr
            have Hd' := Lib.hid hd'
            clear hd' hk
            generalize code / 2 ^ c % 256 = x at *
            rw [show entV N (.inner k) = .pointer (some ⟨nodeB N k, 0, none⟩) from rfl] at hr
            go_wp2_with fail
            exact ⟨⟨f', t1, k, c, rfl, rfl, by omega, by omega, hm8, hkn, Hd'.out, Hlog1.out, Hmem1.out, Hbel1.out⟩, by simp [intOf]; omega⟩
          · have hr := (Hmem1.out.row cur hcur).cell hx
            rw [hk] at hr
            have Hd' := Lib.hid hd'
            clear hd'
            generalize code / 2 ^ c % 256 = x at *
            rw [show entV N .none = .pointer none from rfl] at hr
            go_upto_region 13 with (fail)
            have hmg : TreeMem N (leafV s) ⟨t1.n + 1, (cur, x, 1, .inner t1.n) :: t1.log⟩ ((withNode wr.drew).setCell ⟨rowB N cur, x, none⟩ (.pointer (some ⟨nodeB N t1.n, 0, none⟩))) := Hmem1.out.drew.grow hcur Hlog1.out.fresh
            have hn2 : (withNode wr.drew).cell? ⟨nodeB N cur, 0, none⟩ = some (.pointer (some ⟨rowB N cur, 0, none⟩)) := (((Hmem1.out.drew.node cur hcur).alloc _).alloc _).cell' (i := 0) (by decide) rfl
            have hr2 : (withNode wr.drew).cell? ⟨rowB N cur, x, none⟩ = some (.pointer none) := (((Hmem1.out.drew.row cur hcur).alloc _).alloc _).cell' hx (by simp only [hk]; rfl)
            have hf2 : (withNode wr.drew).frozen? ⟨rowB N cur, x, none⟩ = false := (((Hmem1.out.drew.row cur hcur).alloc _).alloc _).unfrozen _ _
            have hbg : Below N w ((withNode wr.drew).setCell ⟨rowB N cur, x, none⟩ (.pointer (some ⟨nodeB N t1.n, 0, none⟩))) := (((Hbel1.out.drew.alloc (by have := Hmem1.out.size; simp; omega) _).alloc (by have := Hmem1.out.size; simp; omega) _)).setCell le_rowB _
            have hsz : wr.drew.heap.size + 1 = nodeB N t1.n := by have h1 := Hmem1.out.size; have h2 := Hmem1.out.pos; simp; unfold nodeB; split <;> omega
            have Hmg := Lib.hid hmg
            have Hbg := Lib.hid hbg
            clear hmg hbg
            have hxI : (x : Int) < 256 := by omega
            refine wp_region_held_drew (S := (fun w' => w'.cell? ⟨nodeB N cur, 0, none⟩ = some (.pointer (some ⟨rowB N cur, 0, none⟩)))) (by kernel_rfl) (hn) (fun hHeld => ?_)
            refine takeH 0 (v := ?_) rfl rfl (by kernel_rfl) (by kernel_rfl) (by kernel_rfl) (fun _ _ _ h => h) (Or.inl ⟨by rfl, ?_⟩) (by assumption) ?_
            rotate_left
            · (intro w hSw; (try dsimp only at hSw); go_simp <;> with_reducible rfl)
            simp only [List.setIfInBounds_toArray, List.set_cons_zero, List.set_cons_succ]
            refine takeH 1 (v := ?_) rfl rfl (by kernel_rfl) (by kernel_rfl) (by kernel_rfl) (fun _ _ _ h => h) (Or.inl ⟨by rfl, ?_⟩) (by assumption) ?_
            rotate_left
            · (intro w hSw; (try dsimp only at hSw); go_simp <;> with_reducible rfl)
            simp only [List.setIfInBounds_toArray, List.set_cons_zero, List.set_cons_succ]
            refine takeH 2 (v := ?_) rfl rfl (by kernel_rfl) (by kernel_rfl) (by kernel_rfl) (fun _ _ _ h => h) (Or.inl ⟨by rfl, ?_⟩) (by assumption) ?_
            rotate_left
            · (intro w hSw; (try dsimp only at hSw); go_simp <;> with_reducible rfl)
            simp only [List.setIfInBounds_toArray, List.set_cons_zero, List.set_cons_succ]
            refine takeH 3 (v := ?_) rfl rfl (by kernel_rfl) (by kernel_rfl) (by kernel_rfl) (fun _ _ _ h => h) (Or.inl ⟨by rfl, ?_⟩) (by assumption) ?_
            rotate_left
            · (intro w hSw; (try dsimp only at hSw); go_simp <;> with_reducible rfl)
            simp only [List.setIfInBounds_toArray, List.set_cons_zero, List.set_cons_succ]
            refine takeH 4 (v := ?_) rfl rfl (by kernel_rfl) (by kernel_rfl) (by kernel_rfl) (fun _ _ _ h => h) (Or.inl ⟨by rfl, ?_⟩) (by assumption) ?_
            rotate_left
            · (intro w hSw; (try dsimp only at hSw); go_simp <;> with_reducible rfl)
            simp only [List.setIfInBounds_toArray, List.set_cons_zero, List.set_cons_succ]
            refine takeH 6 (v := ?_) rfl rfl (by kernel_rfl) (by kernel_rfl) (by kernel_rfl) (fun _ _ _ h => h) (Or.inl ⟨by rfl, ?_⟩) (by assumption) ?_
            rotate_left
            · (intro w hSw; (try dsimp only at hSw); go_simp <;> with_reducible rfl)
            simp only [List.setIfInBounds_toArray, List.set_cons_zero, List.set_cons_succ]
            refine wpAnyH_ready (rs := [5]) (by kernel_rfl) (by simp) ?_
            refine AllReadyH.cons rfl (fun K hK => ?_) AllReadyH.nil
            go_simp
            refine (newNode_any _).mono ?_
            rintro e w2 ⟨rfl, rfl⟩
            refine hK.out _ _ hn2 (fun hHeld => ?_)
            clear hK K
            rw [hsz]
            refine takeH 7 (v := ?_) rfl rfl (by kernel_rfl) (by kernel_rfl) (by kernel_rfl) (fun _ _ _ h => h) (Or.inl ⟨by rfl, ?_⟩) (by assumption) ?_
            rotate_left
            · (intro w hSw; (try dsimp only at hSw); go_simp <;> with_reducible rfl)
            simp only [List.setIfInBounds_toArray, List.set_cons_zero, List.set_cons_succ]
            refine wpAnyH_ready (rs := [8]) (by kernel_rfl) (by simp) ?_
            refine AllReadyH.cons rfl (fun K hK => ?_) AllReadyH.nil
            go_simp
            refine hK.out _ _ ((cell_other rowB_node).trans hn2) (fun hHeld => ?_)
            clear hK K
            refine wpAnyH_done (by kernel_rfl) ?_ _
            clear hn hr hn2 hr2 hf2 hHeld
            have hn3 := (Hmg.out.node cur (Nat.lt_succ_of_lt hcur)).cell' (i := 0) (by decide) (show nodeV N cur 0 = .pointer (some ⟨rowB N cur, 0, none⟩) from rfl)
            have hr3 := (Hmg.out.row cur (Nat.lt_succ_of_lt hcur)).cell' hx (v := .pointer (some ⟨nodeB N t1.n, 0, none⟩)) (by simp [HP.lookL, entV])
            generalize (withNode wr.drew).setCell ⟨rowB N cur, x, none⟩ (.pointer (some ⟨nodeB N t1.n, 0, none⟩)) = w3 at *
            go_wp2_with fail
            have hR : ∃ (f : Nat) (t9 : HP.TB) (cur' cl : Nat), Value.int .u8 (c : Nat) = .int .u8 cl ∧ Value.pointer (some ⟨nodeB N t1.n, 0, none⟩) = .pointer (some ⟨nodeB N cur', 0, none⟩) ∧ 1 ≤ cl ∧ cl ≤ 30 ∧ (∃ m, len = cl + 8 * m) ∧ cur' < t9.n ∧ HP.desc f t9 cur' code cl = some R ∧ LogOK t9 ∧ TreeMem N (leafV s) t9 w3 ∧ Below N w w3 := ⟨f', _, t1.n, c, rfl, rfl, by omega, by omega, hm8, Nat.lt_succ_self _, Hd'.out, Hlog1.out.grow hcur, Hmg.out, Hbg.out⟩
            exact ⟨hR, by simp [intOf]; omega⟩
        · have hdd := Hd1.out
          rw [desc_done (by omega)] at hdd
          obtain rfl : (t1, cur, cl) = R := Option.some.inj hdd
          have hlf := Hleaf.out
          unfold HP.addLeaf at hlf
          simp only [] at hlf
          by_cases hcd : 1 ≤ cl ∧ HP.startOf code cl + 2 ^ (8 - cl) ≤ 256
          · rw [if_pos hcd] at hlf
            have Hlf := Lib.hid (Option.some.inj hlf)
            clear hlf hdd Hleaf Hd1 Hdesc Hmem Hbel Hlog
            go_upto_region 17 with (fail)
            have hp : (2 : Nat) ^ (8 - cl) ≤ 128 := by
              have : (2 : Nat) ^ (8 - cl) ≤ 2 ^ 7 := Nat.pow_le_pow_right (by decide) (by omega)
              exact this
            have e1 : ∀ q : Nat, q ≤ 128 → wrap64 (q : Int) = q := fun q hq => IntWalk.wrap64_in _ (by omega)
            rw [show (code : Int) * 2 ^ (8 - cl) % 256 = ((HP.startOf code cl : Nat) : Int) by simp [HP.startOf], show wrap64 (2 ^ (8 - cl)) = ((2 ^ (8 - cl) : Nat) : Int) by rw [show (2 : Int) ^ (8 - cl) = ((2 ^ (8 - cl) : Nat) : Int) by simp]; exact e1 _ hp]
            obtain ⟨_, hcd2⟩ := hcd
            generalize HP.startOf code cl = st at *
            generalize 2 ^ (8 - cl) = cnt at *
            have M1 := Hmem1.out.setLeaf (s * 3 + 2) (.int .u8 (s : Nat))
            have M2 := M1.setLeaf (s * 3 + 1) (.int .u8 (cl : Nat))
            have c1 := Hmem1.out.leaves.cell' (i := s * 3 + 2) (by omega) (leafV_new 2 (by decide) (by decide))
            have c2 := M1.leaves.cell' (i := s * 3 + 1) (by omega) (v := .int .u8 0) (by show (if _ then _ else _) = _; rw [if_neg (by omega)]; exact leafV_new 1 (by decide) (by decide))
            have f1 := Hmem1.out.leaves.unfrozen (s * 3 + 2) none
            have f2 := M1.leaves.unfrozen (s * 3 + 1) none
            have M3 := (M2.congr (leafV_next (by have := Hm.out; unfold cl8; omega))).zeroRun cur st (.leaf s cl)
            have hb2 : Below N w ((wr.setCell ⟨N + 2, s * 3 + 2, none⟩ (.int .u8 (s : Nat))).setCell ⟨N + 2, s * 3 + 1, none⟩ (.int .u8 (cl : Nat))) := (Hbel1.out.setCell (by show N ≤ N + 2; omega) _).setCell (by show N ≤ N + 2; omega) _
            have HM3 := Lib.hid M3
            have HB2 := Lib.hid hb2
            clear M1 M2 M3 hb2
            go_wp2_with fail
            rw [show decide ((8 : Int) < (cl : Int)) = false by simp; omega]
            generalize (code : Int) * 2 ^ (8 - cl) % 4294967296 = pz
            go_loopw [11] (fun i wr => ∃ c : Nat, c ≤ cnt ∧ i = .int .i64 ((st + c : Nat) : Int) ∧ TreeMem N (leafV (s + 1)) ⟨t1.n, (cur, st, c, .leaf s cl) :: t1.log⟩ wr ∧ Below N w wr) (fun i _ => 256 - (intOf i).toNat)
            case atStart => exact ⟨0, Nat.zero_le _, rfl, HM3.out, HB2.out⟩
            case round =>
              obtain ⟨c, hc, rfl, hm3, hb3⟩ := hrel
              have HM := Lib.hid hm3
              have HB := Lib.hid hb3
              clear hm3 hb3 HM3 HB2 Hmem1 Hbel1
              by_cases hlc : c < cnt
              · have hn := (HM.out.node cur hcur).cell' (i := 0) (by decide) (show nodeV N cur 0 = .pointer (some ⟨rowB N cur, 0, none⟩) from rfl)
                have hr : ∃ v, wr.cell? ⟨rowB N cur, st + c, none⟩ = some v := ⟨_, (HM.out.row cur hcur).cell (i := st + c) (by omega)⟩
                have hf := (HM.out.row cur hcur).unfrozen (st + c) none
                have hm4 : TreeMem N (leafV (s + 1)) ⟨t1.n, (cur, st, c + 1, .leaf s cl) :: t1.log⟩ (wr.setCell ⟨rowB N cur, st + c, none⟩ (.pointer (some ⟨N + 2, s * 3, none⟩))).drew := (HM.out.setRun hcur).drew
                have hb4 : Below N w (wr.setCell ⟨rowB N cur, st + c, none⟩ (.pointer (some ⟨N + 2, s * 3, none⟩))).drew := (HB.out.setCell le_rowB _).drew
                have hj1 : st + (c + 1) = st + c + 1 := by omega
                have Hc1 := Lib.hid hlc
                generalize hj : st + c = j at *
                have Hj := Lib.hid hj
                have hjI : (j : Int) < 256 := by omega
                have hjc : (j : Int) < (st : Int) + (cnt : Int) := by omega
                obtain ⟨v, hr⟩ := hr
                have HM4 := Lib.hid hm4
                have HB4 := Lib.hid hb4
                clear hm4 hb4 hlc hj
                go_upto_region 22 with (fail)
                refine wp_region_held_drew (S := (fun w' => w'.cell? ⟨nodeB N cur, 0, none⟩ = some (.pointer (some ⟨rowB N cur, 0, none⟩)))) (by kernel_rfl) (hn) (fun hHeld => ?_)
                refine takeH 0 (v := ?_) rfl rfl (by kernel_rfl) (by kernel_rfl) (by kernel_rfl) (fun _ _ _ h => h) (Or.inl ⟨by rfl, ?_⟩) (by assumption) ?_
                rotate_left
                · (intro w hSw; (try dsimp only at hSw); go_simp <;> with_reducible rfl)
                simp only [List.setIfInBounds_toArray, List.set_cons_zero, List.set_cons_succ]
                refine takeH 1 (v := ?_) rfl rfl (by kernel_rfl) (by kernel_rfl) (by kernel_rfl) (fun _ _ _ h => h) (Or.inl ⟨by rfl, ?_⟩) (by assumption) ?_
                rotate_left
                · (intro w hSw; (try dsimp only at hSw); go_simp <;> with_reducible rfl)
                simp only [List.setIfInBounds_toArray, List.set_cons_zero, List.set_cons_succ]
                refine takeH 2 (v := ?_) rfl rfl (by kernel_rfl) (by kernel_rfl) (by kernel_rfl) (fun _ _ _ h => h) (Or.inl ⟨by rfl, ?_⟩) (by assumption) ?_
                rotate_left
                · (intro w hSw; (try dsimp only at hSw); go_simp <;> with_reducible rfl)
                simp only [List.setIfInBounds_toArray, List.set_cons_zero, List.set_cons_succ]
                refine takeH 3 (v := ?_) rfl rfl (by kernel_rfl) (by kernel_rfl) (by kernel_rfl) (fun _ _ _ h => h) (Or.inl ⟨by rfl, ?_⟩) (by assumption) ?_
                rotate_left
                · (intro w hSw; (try dsimp only at hSw); go_simp <;> with_reducible rfl)
                simp only [List.setIfInBounds_toArray, List.set_cons_zero, List.set_cons_succ]
                refine takeH 4 (v := ?_) rfl rfl (by kernel_rfl) (by kernel_rfl) (by kernel_rfl) (fun _ _ _ h => h) (Or.inl ⟨by rfl, ?_⟩) (by assumption) ?_
                rotate_left
                · (intro w hSw; (try dsimp only at hSw); go_simp <;> with_reducible rfl)
                simp only [List.setIfInBounds_toArray, List.set_cons_zero, List.set_cons_succ]
                refine takeH 5 (v := ?_) rfl rfl (by kernel_rfl) (by kernel_rfl) (by kernel_rfl) (fun _ _ _ h => h) (Or.inl ⟨by rfl, ?_⟩) (by assumption) ?_
                rotate_left
                · (intro w hSw; (try dsimp only at hSw); go_simp <;> with_reducible rfl)
                simp only [List.setIfInBounds_toArray, List.set_cons_zero, List.set_cons_succ]
                refine takeH 6 (v := ?_) rfl rfl (by kernel_rfl) (by kernel_rfl) (by kernel_rfl) (fun _ _ _ h => h) (Or.inl ⟨by rfl, ?_⟩) (by assumption) ?_
                rotate_left
                · (intro w hSw; (try dsimp only at hSw); go_simp <;> with_reducible rfl)
                simp only [List.setIfInBounds_toArray, List.set_cons_zero, List.set_cons_succ]
                refine takeH 7 (v := ?_) rfl rfl (by kernel_rfl) (by kernel_rfl) (by kernel_rfl) (fun _ _ _ h => h) (Or.inl ⟨by rfl, ?_⟩) (by assumption) ?_
                rotate_left
                · (intro w hSw; (try dsimp only at hSw); go_simp <;> with_reducible rfl)
                simp only [List.setIfInBounds_toArray, List.set_cons_zero, List.set_cons_succ]
                refine takeH 8 (v := ?_) rfl rfl (by kernel_rfl) (by kernel_rfl) (by kernel_rfl) (fun _ _ _ h => h) (Or.inl ⟨by rfl, ?_⟩) (by assumption) ?_
                rotate_left
                · (intro w hSw; (try dsimp only at hSw); go_simp <;> with_reducible rfl)
                simp only [List.setIfInBounds_toArray, List.set_cons_zero, List.set_cons_succ]
                refine takeH 9 (v := ?_) rfl rfl (by kernel_rfl) (by kernel_rfl) (by kernel_rfl) (fun _ _ _ h => h) (Or.inl ⟨by rfl, ?_⟩) (by assumption) ?_
                rotate_left
                · (intro w hSw; (try dsimp only at hSw); go_simp <;> with_reducible rfl)
                simp only [List.setIfInBounds_toArray, List.set_cons_zero, List.set_cons_succ]
                refine takeH 10 (v := ?_) rfl rfl (by kernel_rfl) (by kernel_rfl) (by kernel_rfl) (fun _ _ _ h => h) (Or.inl ⟨by rfl, ?_⟩) (by assumption) ?_
                rotate_left
                · (intro w hSw; (try dsimp only at hSw); go_simp <;> with_reducible rfl)
                simp only [List.setIfInBounds_toArray, List.set_cons_zero, List.set_cons_succ]
                refine wpAnyH_ready (rs := [11]) (by kernel_rfl) (by simp) ?_
                refine AllReadyH.cons rfl (fun K hK => ?_) AllReadyH.nil
                go_simp
                refine hK.out _ _ ((cell_other rowB_node).trans hn) (fun hHeld => ?_)
                clear hK K
                refine wpAnyH_done (by kernel_rfl) ?_ _
                clear hn hr hf hHeld
                have ex : wr.drew.setCell ⟨rowB N cur, j, none⟩ (.pointer (some ⟨N + 2, s * 3, none⟩)) = (wr.setCell ⟨rowB N cur, j, none⟩ (.pointer (some ⟨N + 2, s * 3, none⟩))).drew := rfl
                try rw [ex]
                clear ex
                generalize (wr.setCell ⟨rowB N cur, j, none⟩ (.pointer (some ⟨N + 2, s * 3, none⟩))).drew = w3 at *
                go_wp2_with fail
                have hR : ∃ c : Nat, c ≤ cnt ∧ Value.int .i64 ((j : Int) + 1) = .int .i64 ((st + c : Nat) : Int) ∧ TreeMem N (leafV (s + 1)) ⟨t1.n, (cur, st, c, .leaf s cl) :: t1.log⟩ w3 ∧ Below N w w3 := ⟨c + 1, Hc1.out, by rw [hj1]; go_num, HM4.out, HB4.out⟩
                exact ⟨hR, by simp [intOf]; omega⟩
              · obtain rfl : c = cnt := by omega
                go_wp2_with fail
                have e := Hlf.out
                exact ⟨⟨s + 1, t', by omega, by go_num, Htb'.out, by rw [← e]; exact Hlog1.out.more hcur, by rw [← e]; exact HM.out, HB.out⟩, by simp [intOf]; omega⟩
          · rw [if_neg hcd] at hlf; cases hlf
    · obtain rfl : s = 256 := by omega
      go_wp2_with fail
      go_ret
      have e := Htb.out
      rw [HP.finalIs] at e
      obtain rfl := Option.some.inj e
      exact ⟨by rw [HN.out]; rfl, by rw [HN.out]; exact Hmem.out, by rw [HN.out]; exact Hbel.out⟩
#print axioms tree_any
end Go.Proofs.YtnemkaiaieomfaaDoor
