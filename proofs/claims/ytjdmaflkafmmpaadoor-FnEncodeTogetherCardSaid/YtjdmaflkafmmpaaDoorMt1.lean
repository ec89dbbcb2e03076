/-
  Texts of this seat, one behind the other: Tree, Buf, DecLaw, Decode, Text, HText. What each one shows stands at its head. No condition.
-/
import Derived.Test.YtjdmaflkafmmpaaDoorMs1
import Derived.Deep.Cut
import Derived.Shelf.Bytes.WriteByteKept
import Derived.Shelf.Bytes.String
import Derived.Shelf.Bytes.Bytes
import Derived.Shelf.Bytes.Reset
import Derived.BigCall
import Derived.Lib.BufferOld
import Derived.LaidEql
/-
  The contract of getRootHuffmanNode: the tree lies in new memory.
-/
namespace Go.Proofs.YtjdmaflkafmmpaaDoor
open Go.ChangeShapes Go.WideShapes Go.ChangeAt Go.RowKit

/-- A whole array is loaded whose cells are known. -/
theorem wpList_load_cells {P : Program} {ops : Array Oper} {rest : List Oper} {o : Oper} {a : Act} {w : World} {Q : Exit → Act → World → Prop} (hgd : o.guard = none) (ty : TypeId) (x : Operand) (ho : o.op = .load ty x)
    (g : Nat) (hx : a.eval x = .pointer (some ⟨g, 0, none⟩)) (cs : List Value) (d : TypeDesc) (hg : ∀ i v, cs[i]? = some v → w.cell? ⟨g, i, none⟩ = some v)
    (hu : P.underlying ty = some d) (hd : (match d with | .struct _ | .array _ _ => true | _ => false) = true) (hi : (P.info? ty).map (·.size) = some cs.length)
    (h : wpList P ops Q rest (a.put o.dst (.agg cs.toArray)) w) : wpList P ops Q (o :: rest) a w := by
  refine wpList_plain hgd fun K hK => ?_
  have hl : (loadVar ty ⟨g, 0, none⟩).run P w = .ok (.agg cs.toArray) w := by
    have hl : (loadCells ⟨g, 0, none⟩ cs.length).run P w = .ok cs.toArray w :=
      run_loadCells_list (P := P) w ⟨g, 0, none⟩ cs (fun j v hv => by
        have hadd : (⟨g, 0, none⟩ : Addr).add j = ⟨g, j, none⟩ := by unfold Addr.add; split <;> simp_all
        rw [hadd]; exact hg j v hv)
    cases hq : P.info? ty with
    | none => simp [hq] at hi
    | some i =>
      have hs : i.size = cs.length := by simpa [hq] using hi
      have hagg : (isAgg ty).run P w = .ok true w := by
        unfold isAgg
        rw [Sem.run_bind, run_underlying hu w]
        cases d <;> simp_all
      simp [loadVar, Sem.run_bind, hagg, sizeOf, typeInfo, hq, hs, hl]
  unfold Oper.wp execOp
  simp only [ho, hx, Instr.loadAt, Instr.sureAddr, Sem.run_bind, Sem.run_pure, Result.andThen_ok, hl]
  exact hK _ _ h

def codeVals : List Value := (List.range 256).map fun i => .int .u32 (HP.hcode i : Nat)
theorem codeVals_len : codeVals.length = 256 := by simp [codeVals]
theorem codeVals_at {i : Nat} (h : i < 256) : codeVals.toArray[i]? = some (.int .u32 (HP.hcode i : Nat)) := by simp [codeVals, h]
theorem codeVals_cell {w : World} (h : CodeTab w) (i : Nat) (v : Value) (hv : codeVals[i]? = some v) : w.cell? ⟨6, i, none⟩ = some v := by
  have hi : i < 256 := by
    rcases Nat.lt_or_ge i 256 with h' | h'
    · exact h'
    · rw [List.getElem?_eq_none (by rw [codeVals_len]; exact h')] at hv; cases hv
  rw [h i hi]
  simp [codeVals, hi] at hv
  rw [hv]

def leaves0 : Array Value := Array.ofFn (n := 768) fun i => leafV 0 i.val
theorem leaves0_size : leaves0.size = 768 := by simp [leaves0]
theorem leaves0_ne : leaves0 ≠ #[] := fun h => by have := leaves0_size; rw [h] at this; cases this
theorem leaves0_at : ∀ i, i < 768 → leaves0[i]? = some (leafV 0 i) := fun i hi => by simp [leaves0, hi]
theorem zero79 : ∀ w, (zeroValue 158).run Tryd.prog w = .ok (.agg leaves0) w := zero_of (by kernel_rfl)

theorem infoU32 : (Tryd.prog.info? 56).map (fun i => (i.zero, i.size)) = some (some (.int .u32 0), 1) := by kernel_rfl
theorem index_code {cv : Array Value} {s : Nat} {v : Int} (hs : s < 256) (h : cv[s]? = some (.int .u32 v)) (w : World) : (Instr.index 145 (.agg cv) (.int .i64 s)).run Tryd.prog w = .ok (.int .u32 v) w := by
  cases hq : Tryd.prog.info? 56 with
  | none => have := infoU32; rw [hq] at this; cases this
  | some i =>
    have := infoU32
    rw [hq] at this
    simp at this
    simp [Instr.index, run_underlying Tryd.underlying145, run_underlying Tryd.underlying56, asIntOf, sizeOf, typeInfo, hq, this.2, part, isAgg, h, hs]

def LogOK (t : HP.TB) : Prop := ∀ e ∈ t.log, e.1 < t.n
theorem LogOK.fresh {t : HP.TB} (h : LogOK t) : ∀ i, HP.lookL t.log t.n i = .none := by
  intro i
  have key : ∀ l : HP.Log, (∀ e ∈ l, e.1 < t.n) → HP.lookL l t.n i = .none := by
    intro l
    induction l with
    | nil => intro _; rfl
    | cons e l ih =>
      intro hl
      obtain ⟨k', s, c, e⟩ := e
      simp only [HP.lookL]
      rw [if_neg (by have := hl _ List.mem_cons_self; simp at this; omega)]
      exact ih fun e he => hl e (List.mem_cons_of_mem _ he)
  exact key _ h

theorem logOK0 : LogOK ⟨1, []⟩ := fun e he => by cases he

theorem LogOK.grow {t : HP.TB} (h : LogOK t) {k : Nat} (hk : k < t.n) {s c : Nat} {e : HP.Ent} : LogOK ⟨t.n + 1, (k, s, c, e) :: t.log⟩ := by
  intro x hx
  rcases List.mem_cons.1 hx with rfl | hx
  · exact Nat.lt_succ_of_lt hk
  · exact Nat.lt_succ_of_lt (h x hx)
theorem LogOK.more {t : HP.TB} (h : LogOK t) {k : Nat} (hk : k < t.n) {s c : Nat} {e : HP.Ent} : LogOK ⟨t.n, (k, s, c, e) :: t.log⟩ := by
  intro x hx
  rcases List.mem_cons.1 hx with rfl | hx
  · exact hk
  · exact h x hx

theorem code_bound (s : Nat) (h : s < 256) : 5 ≤ HP.hlen s ∧ HP.hlen s ≤ 30 ∧ HP.hcode s < 2 ^ HP.hlen s := by
  have := List.all_eq_true.1 HP.code_bounds s (by simpa using h)
  simp at this
  omega
theorem desc_done {f : Nat} {t : HP.TB} {cur code cl : Nat} (h : cl ≤ 8) : HP.desc f t cur code cl = some (t, cur, cl) := by cases f <;> simp [HP.desc, h]
theorem desc_step {f : Nat} {t : HP.TB} {cur code cl : Nat} {R : HP.TB × Nat × Nat} (h : HP.desc f t cur code (cl + 8) = some R) (h8 : 1 ≤ cl) :
    (∃ f' k, HP.lookL t.log cur (code / 2 ^ cl % 256) = .inner k ∧ k < t.n ∧ HP.desc f' t k code cl = some R) ∨
    (∃ f', HP.lookL t.log cur (code / 2 ^ cl % 256) = .none ∧ HP.desc f' ⟨t.n + 1, (cur, code / 2 ^ cl % 256, 1, .inner t.n) :: t.log⟩ t.n code cl = some R) := by
  have h9 : ¬ cl + 8 ≤ 8 := by omega
  cases f with
  | zero => simp [HP.desc, h9] at h
  | succ f =>
    simp only [HP.desc, h9, if_false, Nat.add_sub_cancel] at h
    split at h
    · rename_i k hk
      by_cases hkn : k < t.n
      · rw [if_pos hkn] at h; exact Or.inl ⟨f, k, hk, hkn, h⟩
      · rw [if_neg hkn] at h; cases h
    · cases h
    · rename_i hk; exact Or.inr ⟨f, hk, h⟩
theorem tbAt_step {s : Nat} {t : HP.TB} (hs : s < 256) (h : HP.tbAt s = some t) : ∃ R t', HP.desc 4 t 0 (HP.hcode s) (HP.hlen s) = some R ∧ HP.addLeaf R s (HP.hcode s) = some t' ∧ HP.tbAt (s + 1) = some t' := by
  obtain ⟨t', ht'⟩ := HP.tbAt_some (show s + 1 ≤ 256 by omega)
  have h2 := ht'
  rw [HP.tbAt, h] at h2
  simp only [HP.addSym] at h2
  cases hd : HP.desc 4 t 0 (HP.hcode s) (HP.hlen s) with
  | none => rw [hd] at h2; cases h2
  | some R => rw [hd] at h2; exact ⟨R, t', rfl, h2, ht'⟩

theorem leafV_new {s : Nat} (r : Nat) (h1 : r ≠ 0) (h3 : r < 3) : leafV s (s * 3 + r) = .int .u8 0 := by
  unfold leafV
  rw [if_neg (by omega), if_neg (by omega)]
theorem leafV_next {s cl : Nat} (h : cl8 s = cl) (i : Nat) (_hi : i < 768) : (if i = s * 3 + 1 then Value.int .u8 (cl : Nat) else if i = s * 3 + 2 then .int .u8 (s : Nat) else leafV s i) = leafV (s + 1) i := by
  subst h
  by_cases h1 : i = s * 3 + 1
  · subst h1
    have e : (s * 3 + 1) / 3 = s := by omega
    unfold leafV
    rw [if_pos rfl, if_neg (by omega), if_pos (by omega), if_pos (by omega), e]
  · by_cases h2 : i = s * 3 + 2
    · subst h2
      have e : (s * 3 + 2) / 3 = s := by omega
      unfold leafV
      rw [if_neg (by omega), if_pos rfl, if_neg (by omega), if_pos (by omega), if_neg (by omega), e]
    · rw [if_neg h1, if_neg h2]
      unfold leafV
      by_cases h0 : i % 3 = 0
      · rw [if_pos h0, if_pos h0]
      · by_cases h5 : i / 3 < s
        · simp only [h0, h5, show i / 3 < s + 1 by omega, if_true, if_false]
        · simp only [h0, h5, show ¬ i / 3 < s + 1 by omega, if_false]

set_option maxRecDepth 100000 in
set_option maxHeartbeats 1000000 in
theorem tree_any (w : World) (hl : LenTab w) (hc : CodeTab w) :
    Calls Tryd.prog 86 #[] w fun e w' => e = .returned (.pointer (some ⟨w.heap.size + 1, 0, none⟩)) ∧ TreeMem w.heap.size (leafV 256) ⟨15, HP.finalL⟩ w' ∧ Below w.heap.size w w' := by
  have Hl := Lib.hid hl
  have Hc := Lib.hid hc
  clear hl hc
  go_enter Tryd.func86, Tryd.ntmps86
  go_wp2_with fail
  refine (newNode_any w).mono ?_
  rintro e w1 ⟨rfl, rfl⟩
  have ht : TreeMem w.heap.size (leafV 0) ⟨1, []⟩ ((withNode w).alloc (.cells leaves0 158)) := treeMem_first w (by decide) leaves0_size leaves0_at
  have hz := zero79
  have hne := leaves0_ne
  have hb : Below w.heap.size w ((withNode w).alloc (.cells leaves0 158)) := (((Below.refl _ _).alloc (Nat.le_refl _) _).alloc (by simp) _).alloc (by simp; omega) _
  have e2 : (withNode w).heap.size = w.heap.size + 2 := by simp [withNode]
  generalize leaves0 = ls at *
  have HT := Lib.hid ht
  have HB := Lib.hid hb
  clear ht hb
  have HE := Lib.hid e2
  clear e2
  have CT := Lib.hid (codeVals_cell (Hc.out.below HB.out Hc.out.lt))
  go_wp2_with (refine wpList_load_cells rfl 145 _ rfl 6 rfl codeVals _ CT.out Tryd.underlying145 rfl (by rw [codeVals_len]; kernel_rfl) ?_)
  rw [HE.out, show (w.heap.size + 1 : Nat) = nodeB w.heap.size 0 from rfl]
  generalize hN : w.heap.size = N at *
  have HN := Lib.hid hN
  clear hN CT HE
  go_loopw [16] (fun i wr => ∃ (s : Nat) (t : HP.TB), s ≤ 256 ∧ i = .int .i64 s ∧ HP.tbAt s = some t ∧ LogOK t ∧ TreeMem N (leafV s) t wr ∧ Below N w wr) (fun i _ => 256 - (intOf i).toNat)
  case atStart => exact ⟨0, _, Nat.zero_le _, rfl, rfl, logOK0, HT.out, HB.out⟩
  case round =>
    obtain ⟨s, t, hs, rfl, htb, hlog, hmem, hbel⟩ := hrel
    have Htb := Lib.hid htb
    have Hlog := Lib.hid hlog
    have Hmem := Lib.hid hmem
    have Hbel := Lib.hid hbel
    clear htb hlog hmem hbel HT HB
    by_cases hlt : s < 256
    · have hcode := codeVals_at hlt
      have hlen := (Hl.out.below Hbel.out (by have := LenTab.lt Hl.out; have := HN.out; omega)) s hlt
      have hl30 := hlen_lt s hlt
      generalize codeVals.toArray = cv at *
      have hix := index_code hlt hcode
      clear hcode
      obtain ⟨R, t', hdesc, hleaf, htb'⟩ := tbAt_step hlt Htb.out
      have Hdesc := Lib.hid hdesc
      have Hleaf := Lib.hid hleaf
      have Htb' := Lib.hid htb'
      have hcb := (code_bound s hlt)
      clear hdesc hleaf htb'
      go_wp2_with fail
      rw [show decide ((s : Int) < 256) = true by simp; omega]
      generalize HP.hcode s = code at *
      generalize hcl : HP.hlen s = len at *
      go_loopw [5, 6] (fun c5 p6 wr => ∃ (f : Nat) (t1 : HP.TB) (cur cl : Nat), c5 = .int .u8 cl ∧ p6 = .pointer (some ⟨nodeB N cur, 0, none⟩) ∧ 1 ≤ cl ∧ cl ≤ 30 ∧ (∃ m, len = cl + 8 * m) ∧ cur < t1.n ∧ HP.desc f t1 cur code cl = some R ∧ LogOK t1 ∧ TreeMem N (leafV s) t1 wr ∧ Below N w wr) (fun c5 _ _ => (intOf c5).toNat)
      case atStart => exact ⟨4, t, 0, len, rfl, rfl, by omega, by omega, ⟨0, by omega⟩, Hmem.out.pos, Hdesc.out, Hlog.out, Hmem.out, Hbel.out⟩
      case round =>
        obtain ⟨f, t1, cur, cl, rfl, rfl, h1, h30, ⟨m, hm⟩, hcur, hdesc, hlog, hmem, hbel⟩ := hrel
        have Hm := Lib.hid hm
        clear hm
        have Hd1 := Lib.hid hdesc
        have Hlog1 := Lib.hid hlog
        have Hmem1 := Lib.hid hmem
        have Hbel1 := Lib.hid hbel
        clear hdesc hlog hmem hbel
        by_cases h8 : 8 < cl
        · obtain ⟨c, rfl⟩ : ∃ c, cl = c + 8 := ⟨cl - 8, by omega⟩
          have hm8 : ∃ m, len = c + 8 * m := ⟨m + 1, by have := Hm.out; omega⟩
          have hn := (Hmem1.out.node cur hcur).cell' (i := 0) (by decide) rfl
          rw [show nodeV N cur 0 = .pointer (some ⟨rowB N cur, 0, none⟩) from rfl] at hn
          go_upto_region 12 with (fail)
          rw [show (code : Int) / 2 ^ c % 256 = ((code / 2 ^ c % 256 : Nat) : Int) by simp]
          have hx : code / 2 ^ c % 256 < 256 := Nat.mod_lt _ (by decide)
          rcases desc_step Hd1.out (by omega) with ⟨f', k, hk, hkn, hd'⟩ | ⟨f', hk, hd'⟩
          · have hr := (Hmem1.out.row cur hcur).cell hx
            rw [hk] at hr
            have Hd' := Lib.hid hd'
            clear hd' hk
            generalize code / 2 ^ c % 256 = x at *
            rw [show entV N (.inner k) = .pointer (some ⟨nodeB N k, 0, none⟩) from rfl] at hr
            go_wp2_with fail
            exact ⟨⟨f', t1, k, c, rfl, rfl, by omega, by omega, hm8, hkn, Hd'.out, Hlog1.out, Hmem1.out, Hbel1.out⟩, by simp [intOf]; omega⟩
          · have hr := (Hmem1.out.row cur hcur).cell hx
            rw [hk] at hr
            have Hd' := Lib.hid hd'
            clear hd'
            generalize code / 2 ^ c % 256 = x at *
            rw [show entV N .none = .pointer none from rfl] at hr
            go_upto_region 13 with (fail)
            have hmg : TreeMem N (leafV s) ⟨t1.n + 1, (cur, x, 1, .inner t1.n) :: t1.log⟩ ((withNode wr.drew).setCell ⟨rowB N cur, x, none⟩ (.pointer (some ⟨nodeB N t1.n, 0, none⟩))) := Hmem1.out.drew.grow hcur Hlog1.out.fresh
            have hn2 : (withNode wr.drew).cell? ⟨nodeB N cur, 0, none⟩ = some (.pointer (some ⟨rowB N cur, 0, none⟩)) := (((Hmem1.out.drew.node cur hcur).alloc _).alloc _).cell' (i := 0) (by decide) rfl
            have hr2 : (withNode wr.drew).cell? ⟨rowB N cur, x, none⟩ = some (.pointer none) := (((Hmem1.out.drew.row cur hcur).alloc _).alloc _).cell' hx (by simp only [hk]; rfl)
            have hf2 : (withNode wr.drew).frozen? ⟨rowB N cur, x, none⟩ = false := (((Hmem1.out.drew.row cur hcur).alloc _).alloc _).unfrozen _ _
            have hbg : Below N w ((withNode wr.drew).setCell ⟨rowB N cur, x, none⟩ (.pointer (some ⟨nodeB N t1.n, 0, none⟩))) := (((Hbel1.out.drew.alloc (by have := Hmem1.out.size; simp; omega) _).alloc (by have := Hmem1.out.size; simp; omega) _)).setCell le_rowB _
            have hsz : wr.drew.heap.size + 1 = nodeB N t1.n := by have h1 := Hmem1.out.size; have h2 := Hmem1.out.pos; simp; unfold nodeB; split <;> omega
            have Hmg := Lib.hid hmg
            have Hbg := Lib.hid hbg
            clear hmg hbg
            have hxI : (x : Int) < 256 := by omega
            refine wp_region_held_drew (S := (fun w' => w'.cell? ⟨nodeB N cur, 0, none⟩ = some (.pointer (some ⟨rowB N cur, 0, none⟩)))) (by kernel_rfl) (hn) (fun hHeld => ?_)
            refine takeH 0 (v := ?_) rfl rfl (by kernel_rfl) (by kernel_rfl) (by kernel_rfl) (fun _ _ _ h => h) (Or.inl ⟨by rfl, ?_⟩) (by assumption) ?_
            rotate_left
            · (intro w hSw; (try dsimp only at hSw); go_simp <;> with_reducible rfl)
            simp only [List.setIfInBounds_toArray, List.set_cons_zero, List.set_cons_succ]
            refine takeH 1 (v := ?_) rfl rfl (by kernel_rfl) (by kernel_rfl) (by kernel_rfl) (fun _ _ _ h => h) (Or.inl ⟨by rfl, ?_⟩) (by assumption) ?_
            rotate_left
            · (intro w hSw; (try dsimp only at hSw); go_simp <;> with_reducible rfl)
            simp only [List.setIfInBounds_toArray, List.set_cons_zero, List.set_cons_succ]
            refine takeH 2 (v := ?_) rfl rfl (by kernel_rfl) (by kernel_rfl) (by kernel_rfl) (fun _ _ _ h => h) (Or.inl ⟨by rfl, ?_⟩) (by assumption) ?_
            rotate_left
            · (intro w hSw; (try dsimp only at hSw); go_simp <;> with_reducible rfl)
            simp only [List.setIfInBounds_toArray, List.set_cons_zero, List.set_cons_succ]
            refine takeH 3 (v := ?_) rfl rfl (by kernel_rfl) (by kernel_rfl) (by kernel_rfl) (fun _ _ _ h => h) (Or.inl ⟨by rfl, ?_⟩) (by assumption) ?_
            rotate_left
            · (intro w hSw; (try dsimp only at hSw); go_simp <;> with_reducible rfl)
            simp only [List.setIfInBounds_toArray, List.set_cons_zero, List.set_cons_succ]
            refine takeH 4 (v := ?_) rfl rfl (by kernel_rfl) (by kernel_rfl) (by kernel_rfl) (fun _ _ _ h => h) (Or.inl ⟨by rfl, ?_⟩) (by assumption) ?_
            rotate_left
            · (intro w hSw; (try dsimp only at hSw); go_simp <;> with_reducible rfl)
            simp only [List.setIfInBounds_toArray, List.set_cons_zero, List.set_cons_succ]
            refine takeH 6 (v := ?_) rfl rfl (by kernel_rfl) (by kernel_rfl) (by kernel_rfl) (fun _ _ _ h => h) (Or.inl ⟨by rfl, ?_⟩) (by assumption) ?_
            rotate_left
            · (intro w hSw; (try dsimp only at hSw); go_simp <;> with_reducible rfl)
            simp only [List.setIfInBounds_toArray, List.set_cons_zero, List.set_cons_succ]
            refine wpAnyH_ready (rs := [5]) (by kernel_rfl) (by simp) ?_
            refine AllReadyH.cons rfl (fun K hK => ?_) AllReadyH.nil
            go_simp
            refine (newNode_any _).mono ?_
            rintro e w2 ⟨rfl, rfl⟩
            refine hK.out _ _ hn2 (fun hHeld => ?_)
            clear hK K
            rw [hsz]
            refine takeH 7 (v := ?_) rfl rfl (by kernel_rfl) (by kernel_rfl) (by kernel_rfl) (fun _ _ _ h => h) (Or.inl ⟨by rfl, ?_⟩) (by assumption) ?_
            rotate_left
            · (intro w hSw; (try dsimp only at hSw); go_simp <;> with_reducible rfl)
            simp only [List.setIfInBounds_toArray, List.set_cons_zero, List.set_cons_succ]
            refine wpAnyH_ready (rs := [8]) (by kernel_rfl) (by simp) ?_
            refine AllReadyH.cons rfl (fun K hK => ?_) AllReadyH.nil
            go_simp
            refine hK.out _ _ ((cell_other rowB_node).trans hn2) (fun hHeld => ?_)
            clear hK K
            refine wpAnyH_done (by kernel_rfl) ?_ _
            clear hn hr hn2 hr2 hf2 hHeld
            have hn3 := (Hmg.out.node cur (Nat.lt_succ_of_lt hcur)).cell' (i := 0) (by decide) (show nodeV N cur 0 = .pointer (some ⟨rowB N cur, 0, none⟩) from rfl)
            have hr3 := (Hmg.out.row cur (Nat.lt_succ_of_lt hcur)).cell' hx (v := .pointer (some ⟨nodeB N t1.n, 0, none⟩)) (by simp [HP.lookL, entV])
            generalize (withNode wr.drew).setCell ⟨rowB N cur, x, none⟩ (.pointer (some ⟨nodeB N t1.n, 0, none⟩)) = w3 at *
            go_wp2_with fail
            have hR : ∃ (f : Nat) (t9 : HP.TB) (cur' cl : Nat), Value.int .u8 (c : Nat) = .int .u8 cl ∧ Value.pointer (some ⟨nodeB N t1.n, 0, none⟩) = .pointer (some ⟨nodeB N cur', 0, none⟩) ∧ 1 ≤ cl ∧ cl ≤ 30 ∧ (∃ m, len = cl + 8 * m) ∧ cur' < t9.n ∧ HP.desc f t9 cur' code cl = some R ∧ LogOK t9 ∧ TreeMem N (leafV s) t9 w3 ∧ Below N w w3 := ⟨f', _, t1.n, c, rfl, rfl, by omega, by omega, hm8, Nat.lt_succ_self _, Hd'.out, Hlog1.out.grow hcur, Hmg.out, Hbg.out⟩
            exact ⟨hR, by simp [intOf]; omega⟩
        · have hdd := Hd1.out
          rw [desc_done (by omega)] at hdd
          obtain rfl : (t1, cur, cl) = R := Option.some.inj hdd
          have hlf := Hleaf.out
          unfold HP.addLeaf at hlf
          simp only [] at hlf
          by_cases hcd : 1 ≤ cl ∧ HP.startOf code cl + 2 ^ (8 - cl) ≤ 256
          · rw [if_pos hcd] at hlf
            have Hlf := Lib.hid (Option.some.inj hlf)
            clear hlf hdd Hleaf Hd1 Hdesc Hmem Hbel Hlog
            go_upto_region 17 with (fail)
            have hp : (2 : Nat) ^ (8 - cl) ≤ 128 := by
              have : (2 : Nat) ^ (8 - cl) ≤ 2 ^ 7 := Nat.pow_le_pow_right (by decide) (by omega)
              exact this
            have e1 : ∀ q : Nat, q ≤ 128 → wrap64 (q : Int) = q := fun q hq => IntWalk.wrap64_in _ (by omega)
            rw [show (code : Int) * 2 ^ (8 - cl) % 256 = ((HP.startOf code cl : Nat) : Int) by simp [HP.startOf], show wrap64 (2 ^ (8 - cl)) = ((2 ^ (8 - cl) : Nat) : Int) by rw [show (2 : Int) ^ (8 - cl) = ((2 ^ (8 - cl) : Nat) : Int) by simp]; exact e1 _ hp]
            obtain ⟨_, hcd2⟩ := hcd
            generalize HP.startOf code cl = st at *
            generalize 2 ^ (8 - cl) = cnt at *
            have M1 := Hmem1.out.setLeaf (s * 3 + 2) (.int .u8 (s : Nat))
            have M2 := M1.setLeaf (s * 3 + 1) (.int .u8 (cl : Nat))
            have c1 := Hmem1.out.leaves.cell' (i := s * 3 + 2) (by omega) (leafV_new 2 (by decide) (by decide))
            have c2 := M1.leaves.cell' (i := s * 3 + 1) (by omega) (v := .int .u8 0) (by show (if _ then _ else _) = _; rw [if_neg (by omega)]; exact leafV_new 1 (by decide) (by decide))
            have f1 := Hmem1.out.leaves.unfrozen (s * 3 + 2) none
            have f2 := M1.leaves.unfrozen (s * 3 + 1) none
            have M3 := (M2.congr (leafV_next (by have := Hm.out; unfold cl8; omega))).zeroRun cur st (.leaf s cl)
            have hb2 : Below N w ((wr.setCell ⟨N + 2, s * 3 + 2, none⟩ (.int .u8 (s : Nat))).setCell ⟨N + 2, s * 3 + 1, none⟩ (.int .u8 (cl : Nat))) := (Hbel1.out.setCell (by show N ≤ N + 2; omega) _).setCell (by show N ≤ N + 2; omega) _
            have HM3 := Lib.hid M3
            have HB2 := Lib.hid hb2
            clear M1 M2 M3 hb2
            go_wp2_with fail
            rw [show decide ((8 : Int) < (cl : Int)) = false by simp; omega]
            generalize (code : Int) * 2 ^ (8 - cl) % 4294967296 = pz
            go_loopw [11] (fun i wr => ∃ c : Nat, c ≤ cnt ∧ i = .int .i64 ((st + c : Nat) : Int) ∧ TreeMem N (leafV (s + 1)) ⟨t1.n, (cur, st, c, .leaf s cl) :: t1.log⟩ wr ∧ Below N w wr) (fun i _ => 256 - (intOf i).toNat)
            case atStart => exact ⟨0, Nat.zero_le _, rfl, HM3.out, HB2.out⟩
            case round =>
              obtain ⟨c, hc, rfl, hm3, hb3⟩ := hrel
              have HM := Lib.hid hm3
              have HB := Lib.hid hb3
              clear hm3 hb3 HM3 HB2 Hmem1 Hbel1
              by_cases hlc : c < cnt
              · have hn := (HM.out.node cur hcur).cell' (i := 0) (by decide) (show nodeV N cur 0 = .pointer (some ⟨rowB N cur, 0, none⟩) from rfl)
                have hr : ∃ v, wr.cell? ⟨rowB N cur, st + c, none⟩ = some v := ⟨_, (HM.out.row cur hcur).cell (i := st + c) (by omega)⟩
                have hf := (HM.out.row cur hcur).unfrozen (st + c) none
                have hm4 : TreeMem N (leafV (s + 1)) ⟨t1.n, (cur, st, c + 1, .leaf s cl) :: t1.log⟩ (wr.setCell ⟨rowB N cur, st + c, none⟩ (.pointer (some ⟨N + 2, s * 3, none⟩))).drew := (HM.out.setRun hcur).drew
                have hb4 : Below N w (wr.setCell ⟨rowB N cur, st + c, none⟩ (.pointer (some ⟨N + 2, s * 3, none⟩))).drew := (HB.out.setCell le_rowB _).drew
                have hj1 : st + (c + 1) = st + c + 1 := by omega
                have Hc1 := Lib.hid hlc
                generalize hj : st + c = j at *
                have Hj := Lib.hid hj
                have hjI : (j : Int) < 256 := by omega
                have hjc : (j : Int) < (st : Int) + (cnt : Int) := by omega
                obtain ⟨v, hr⟩ := hr
                have HM4 := Lib.hid hm4
                have HB4 := Lib.hid hb4
                clear hm4 hb4 hlc hj
                go_upto_region 22 with (fail)
                refine wp_region_held_drew (S := (fun w' => w'.cell? ⟨nodeB N cur, 0, none⟩ = some (.pointer (some ⟨rowB N cur, 0, none⟩)))) (by kernel_rfl) (hn) (fun hHeld => ?_)
                refine takeH 0 (v := ?_) rfl rfl (by kernel_rfl) (by kernel_rfl) (by kernel_rfl) (fun _ _ _ h => h) (Or.inl ⟨by rfl, ?_⟩) (by assumption) ?_
                rotate_left
                · (intro w hSw; (try dsimp only at hSw); go_simp <;> with_reducible rfl)
                simp only [List.setIfInBounds_toArray, List.set_cons_zero, List.set_cons_succ]
                refine takeH 1 (v := ?_) rfl rfl (by kernel_rfl) (by kernel_rfl) (by kernel_rfl) (fun _ _ _ h => h) (Or.inl ⟨by rfl, ?_⟩) (by assumption) ?_
                rotate_left
                · (intro w hSw; (try dsimp only at hSw); go_simp <;> with_reducible rfl)
                simp only [List.setIfInBounds_toArray, List.set_cons_zero, List.set_cons_succ]
                refine takeH 2 (v := ?_) rfl rfl (by kernel_rfl) (by kernel_rfl) (by kernel_rfl) (fun _ _ _ h => h) (Or.inl ⟨by rfl, ?_⟩) (by assumption) ?_
                rotate_left
                · (intro w hSw; (try dsimp only at hSw); go_simp <;> with_reducible rfl)
                simp only [List.setIfInBounds_toArray, List.set_cons_zero, List.set_cons_succ]
                refine takeH 3 (v := ?_) rfl rfl (by kernel_rfl) (by kernel_rfl) (by kernel_rfl) (fun _ _ _ h => h) (Or.inl ⟨by rfl, ?_⟩) (by assumption) ?_
                rotate_left
                · (intro w hSw; (try dsimp only at hSw); go_simp <;> with_reducible rfl)
                simp only [List.setIfInBounds_toArray, List.set_cons_zero, List.set_cons_succ]
                refine takeH 4 (v := ?_) rfl rfl (by kernel_rfl) (by kernel_rfl) (by kernel_rfl) (fun _ _ _ h => h) (Or.inl ⟨by rfl, ?_⟩) (by assumption) ?_
                rotate_left
                · (intro w hSw; (try dsimp only at hSw); go_simp <;> with_reducible rfl)
                simp only [List.setIfInBounds_toArray, List.set_cons_zero, List.set_cons_succ]
                refine takeH 5 (v := ?_) rfl rfl (by kernel_rfl) (by kernel_rfl) (by kernel_rfl) (fun _ _ _ h => h) (Or.inl ⟨by rfl, ?_⟩) (by assumption) ?_
                rotate_left
                · (intro w hSw; (try dsimp only at hSw); go_simp <;> with_reducible rfl)
                simp only [List.setIfInBounds_toArray, List.set_cons_zero, List.set_cons_succ]
                refine takeH 6 (v := ?_) rfl rfl (by kernel_rfl) (by kernel_rfl) (by kernel_rfl) (fun _ _ _ h => h) (Or.inl ⟨by rfl, ?_⟩) (by assumption) ?_
                rotate_left
                · (intro w hSw; (try dsimp only at hSw); go_simp <;> with_reducible rfl)
                simp only [List.setIfInBounds_toArray, List.set_cons_zero, List.set_cons_succ]
                refine takeH 7 (v := ?_) rfl rfl (by kernel_rfl) (by kernel_rfl) (by kernel_rfl) (fun _ _ _ h => h) (Or.inl ⟨by rfl, ?_⟩) (by assumption) ?_
                rotate_left
                · (intro w hSw; (try dsimp only at hSw); go_simp <;> with_reducible rfl)
                simp only [List.setIfInBounds_toArray, List.set_cons_zero, List.set_cons_succ]
                refine takeH 8 (v := ?_) rfl rfl (by kernel_rfl) (by kernel_rfl) (by kernel_rfl) (fun _ _ _ h => h) (Or.inl ⟨by rfl, ?_⟩) (by assumption) ?_
                rotate_left
                · (intro w hSw; (try dsimp only at hSw); go_simp <;> with_reducible rfl)
                simp only [List.setIfInBounds_toArray, List.set_cons_zero, List.set_cons_succ]
                refine takeH 9 (v := ?_) rfl rfl (by kernel_rfl) (by kernel_rfl) (by kernel_rfl) (fun _ _ _ h => h) (Or.inl ⟨by rfl, ?_⟩) (by assumption) ?_
                rotate_left
                · (intro w hSw; (try dsimp only at hSw); go_simp <;> with_reducible rfl)
                simp only [List.setIfInBounds_toArray, List.set_cons_zero, List.set_cons_succ]
                refine takeH 10 (v := ?_) rfl rfl (by kernel_rfl) (by kernel_rfl) (by kernel_rfl) (fun _ _ _ h => h) (Or.inl ⟨by rfl, ?_⟩) (by assumption) ?_
                rotate_left
                · (intro w hSw; (try dsimp only at hSw); go_simp <;> with_reducible rfl)
                simp only [List.setIfInBounds_toArray, List.set_cons_zero, List.set_cons_succ]
                refine wpAnyH_ready (rs := [11]) (by kernel_rfl) (by simp) ?_
                refine AllReadyH.cons rfl (fun K hK => ?_) AllReadyH.nil
                go_simp
                refine hK.out _ _ ((cell_other rowB_node).trans hn) (fun hHeld => ?_)
                clear hK K
                refine wpAnyH_done (by kernel_rfl) ?_ _
                clear hn hr hf hHeld
                have ex : wr.drew.setCell ⟨rowB N cur, j, none⟩ (.pointer (some ⟨N + 2, s * 3, none⟩)) = (wr.setCell ⟨rowB N cur, j, none⟩ (.pointer (some ⟨N + 2, s * 3, none⟩))).drew := rfl
                try rw [ex]
                clear ex
                generalize (wr.setCell ⟨rowB N cur, j, none⟩ (.pointer (some ⟨N + 2, s * 3, none⟩))).drew = w3 at *
                go_wp2_with fail
                have hR : ∃ c : Nat, c ≤ cnt ∧ Value.int .i64 ((j : Int) + 1) = .int .i64 ((st + c : Nat) : Int) ∧ TreeMem N (leafV (s + 1)) ⟨t1.n, (cur, st, c, .leaf s cl) :: t1.log⟩ w3 ∧ Below N w w3 := ⟨c + 1, Hc1.out, by rw [hj1]; go_num, HM4.out, HB4.out⟩
                exact ⟨hR, by simp [intOf]; omega⟩
              · obtain rfl : c = cnt := by omega
                go_wp2_with fail
                have e := Hlf.out
                exact ⟨⟨s + 1, t', by omega, by go_num, Htb'.out, by rw [← e]; exact Hlog1.out.more hcur, by rw [← e]; exact HM.out, HB.out⟩, by simp [intOf]; omega⟩
          · rw [if_neg hcd] at hlf; cases hlf
    · obtain rfl : s = 256 := by omega
      go_wp2_with fail
      go_ret
      have e := Htb.out
      rw [HP.finalIs] at e
      obtain rfl := Option.some.inj e
      exact ⟨by rw [HN.out]; rfl, by rw [HN.out]; exact Hmem.out, by rw [HN.out]; exact Hbel.out⟩
#print axioms tree_any
end Go.Proofs.YtjdmaflkafmmpaaDoor
/-
  bytes.Buffer's contracts, laid here by the shelf's command.
-/
namespace Go.Proofs.YtjdmaflkafmmpaaDoor
open Go.Shelf Go.RowKit
def lays179_ren : Go.Shelf.Ren := ⟨fun | 179 => 87 | 251 => 65 | 252 => 66 | 181 => 48 | 184 => 51 | 290 => 73 | 324 => 81 | n => n, fun | 130 => 119 | 5 => 5 | 75 => 79 | 0 => 0 | 93 => 86 | 91 => 84 | 3 => 3 | 131 => 120 | 4 => 4 | 37 => 30 | 20 => 20 | 80 => 148 | 9 => 9 | n => n, fun | 14 => 4 | n => n⟩
theorem lays179 : Go.Proofs.LaysM.n179 Tryd.prog lays179_ren := {
  mixed := by kernel_rfl
  f179 := Tryd.func87.trans (congrArg some (by kernel_rfl))
  f181 := Tryd.func48.trans (congrArg some (by kernel_rfl))
  f184 := Tryd.func51.trans (congrArg some (by kernel_rfl))
  f251 := Tryd.func65.trans (congrArg some (by kernel_rfl))
  f252 := Tryd.func66.trans (congrArg some (by kernel_rfl))
  f290 := Tryd.func73.trans (congrArg some (by kernel_rfl))
  f324 := Tryd.func81.trans (congrArg some (by kernel_rfl))
  t0 := Tryd.underlying0
  a0 := Tryd.isAgg0
  z0 := Tryd.sizeOf0
  v0 := Tryd.zeroValue0
  t3 := Tryd.underlying3
  a3 := Tryd.isAgg3
  z3 := Tryd.sizeOf3
  v3 := Tryd.zeroValue3
  t4 := Tryd.underlying4
  a4 := Tryd.isAgg4
  z4 := Tryd.sizeOf4
  v4 := Tryd.zeroValue4
  t5 := Tryd.underlying5
  a5 := Tryd.isAgg5
  z5 := Tryd.sizeOf5
  v5 := Tryd.zeroValue5
  t20 := Tryd.underlying20
  a20 := Tryd.isAgg20
  z20 := Tryd.sizeOf20
  v20 := Tryd.zeroValue20
  t37 := Tryd.underlying30
  a37 := Tryd.isAgg30
  z37 := Tryd.sizeOf30
  v37 := Tryd.zeroValue30
  t75 := Tryd.underlying79
  a75 := Tryd.isAgg79
  z75 := Tryd.sizeOf79
  v75 := Tryd.zeroValue79
  t91 := Tryd.underlying84
  a91 := Tryd.isAgg84
  z91 := Tryd.sizeOf84
  v91 := Tryd.zeroValue84
  t93 := Tryd.underlying86
  a93 := Tryd.isAgg86
  z93 := Tryd.sizeOf86
  v93 := Tryd.zeroValue86
  t130 := Tryd.underlying119
  a130 := Tryd.isAgg119
  z130 := Tryd.sizeOf119
  v130 := Tryd.zeroValue119
  t131 := Tryd.underlying120
  a131 := Tryd.isAgg120
  z131 := Tryd.sizeOf120
  v131 := Tryd.zeroValue120
  g14 := by kernel_rfl
  t9 := Tryd.underlying9
  a9 := Tryd.isAgg9
  z9 := Tryd.sizeOf9
  v9 := Tryd.zeroValue9
  t80 := Tryd.underlying148
  a80 := Tryd.isAgg148
  z80 := Tryd.sizeOf148
  v80 := Tryd.zeroValue148
  i0 := by kernel_rfl
  i3 := by kernel_rfl
  i4 := by kernel_rfl
  i5 := by kernel_rfl
  i9 := by kernel_rfl
  i20 := by kernel_rfl
  i37 := by kernel_rfl
  i75 := by kernel_rfl
  i80 := by kernel_rfl
  i91 := by kernel_rfl
  i93 := by kernel_rfl
  i130 := by kernel_rfl
  i131 := by kernel_rfl
  m14 := by kernel_rfl }
def lays182_ren : Go.Shelf.Ren := ⟨fun | 182 => 85 | n => n, fun | 130 => 119 | 9 => 9 | 4 => 4 | 0 => 0 | 93 => 86 | 37 => 30 | 3 => 3 | 91 => 84 | 5 => 5 | n => n, fun | n => n⟩
theorem lays182 : Go.Proofs.LaysM.n182 Tryd.prog lays182_ren := {
  mixed := by kernel_rfl
  f182 := Tryd.func85.trans (congrArg some (by kernel_rfl))
  t0 := Tryd.underlying0
  a0 := Tryd.isAgg0
  z0 := Tryd.sizeOf0
  v0 := Tryd.zeroValue0
  t3 := Tryd.underlying3
  a3 := Tryd.isAgg3
  z3 := Tryd.sizeOf3
  v3 := Tryd.zeroValue3
  t4 := Tryd.underlying4
  a4 := Tryd.isAgg4
  z4 := Tryd.sizeOf4
  v4 := Tryd.zeroValue4
  t9 := Tryd.underlying9
  a9 := Tryd.isAgg9
  z9 := Tryd.sizeOf9
  v9 := Tryd.zeroValue9
  t37 := Tryd.underlying30
  a37 := Tryd.isAgg30
  z37 := Tryd.sizeOf30
  v37 := Tryd.zeroValue30
  t93 := Tryd.underlying86
  a93 := Tryd.isAgg86
  z93 := Tryd.sizeOf86
  v93 := Tryd.zeroValue86
  t130 := Tryd.underlying119
  a130 := Tryd.isAgg119
  z130 := Tryd.sizeOf119
  v130 := Tryd.zeroValue119
  t5 := Tryd.underlying5
  a5 := Tryd.isAgg5
  z5 := Tryd.sizeOf5
  v5 := Tryd.zeroValue5
  t91 := Tryd.underlying84
  a91 := Tryd.isAgg84
  z91 := Tryd.sizeOf84
  v91 := Tryd.zeroValue84
  i0 := by kernel_rfl
  i3 := by kernel_rfl
  i4 := by kernel_rfl
  i5 := by kernel_rfl
  i9 := by kernel_rfl
  i37 := by kernel_rfl
  i91 := by kernel_rfl
  i93 := by kernel_rfl
  i130 := by kernel_rfl }
def lays183_ren : Go.Shelf.Ren := ⟨fun | 183 => 50 | n => n, fun | 130 => 119 | 37 => 30 | 0 => 0 | 93 => 86 | 3 => 3 | 5 => 5 | 91 => 84 | n => n, fun | n => n⟩
theorem lays183 : Go.Proofs.LaysM.n183 Tryd.prog lays183_ren := {
  mixed := by kernel_rfl
  f183 := Tryd.func50.trans (congrArg some (by kernel_rfl))
  t0 := Tryd.underlying0
  a0 := Tryd.isAgg0
  z0 := Tryd.sizeOf0
  v0 := Tryd.zeroValue0
  t3 := Tryd.underlying3
  a3 := Tryd.isAgg3
  z3 := Tryd.sizeOf3
  v3 := Tryd.zeroValue3
  t37 := Tryd.underlying30
  a37 := Tryd.isAgg30
  z37 := Tryd.sizeOf30
  v37 := Tryd.zeroValue30
  t93 := Tryd.underlying86
  a93 := Tryd.isAgg86
  z93 := Tryd.sizeOf86
  v93 := Tryd.zeroValue86
  t130 := Tryd.underlying119
  a130 := Tryd.isAgg119
  z130 := Tryd.sizeOf119
  v130 := Tryd.zeroValue119
  t5 := Tryd.underlying5
  a5 := Tryd.isAgg5
  z5 := Tryd.sizeOf5
  v5 := Tryd.zeroValue5
  t91 := Tryd.underlying84
  a91 := Tryd.isAgg84
  z91 := Tryd.sizeOf84
  v91 := Tryd.zeroValue84
  i0 := by kernel_rfl
  i3 := by kernel_rfl
  i5 := by kernel_rfl
  i37 := by kernel_rfl
  i91 := by kernel_rfl
  i93 := by kernel_rfl
  i130 := by kernel_rfl }
def lays184_ren : Go.Shelf.Ren := ⟨fun | 184 => 51 | n => n, fun | 130 => 119 | 0 => 0 | 93 => 86 | 37 => 30 | 3 => 3 | 91 => 84 | 5 => 5 | n => n, fun | n => n⟩
theorem lays184 : Go.Proofs.LaysM.n184 Tryd.prog lays184_ren := {
  mixed := by kernel_rfl
  f184 := Tryd.func51.trans (congrArg some (by kernel_rfl))
  t0 := Tryd.underlying0
  a0 := Tryd.isAgg0
  z0 := Tryd.sizeOf0
  v0 := Tryd.zeroValue0
  t3 := Tryd.underlying3
  a3 := Tryd.isAgg3
  z3 := Tryd.sizeOf3
  v3 := Tryd.zeroValue3
  t37 := Tryd.underlying30
  a37 := Tryd.isAgg30
  z37 := Tryd.sizeOf30
  v37 := Tryd.zeroValue30
  t91 := Tryd.underlying84
  a91 := Tryd.isAgg84
  z91 := Tryd.sizeOf84
  v91 := Tryd.zeroValue84
  t93 := Tryd.underlying86
  a93 := Tryd.isAgg86
  z93 := Tryd.sizeOf86
  v93 := Tryd.zeroValue86
  t130 := Tryd.underlying119
  a130 := Tryd.isAgg119
  z130 := Tryd.sizeOf119
  v130 := Tryd.zeroValue119
  t5 := Tryd.underlying5
  a5 := Tryd.isAgg5
  z5 := Tryd.sizeOf5
  v5 := Tryd.zeroValue5
  i0 := by kernel_rfl
  i3 := by kernel_rfl
  i5 := by kernel_rfl
  i37 := by kernel_rfl
  i91 := by kernel_rfl
  i93 := by kernel_rfl
  i130 := by kernel_rfl }

theorem Buffer_WriteByte (B b : Nat) (bs : List Value) (c : Int) (w : World) (h : Lib.IsBuffer 86 5 B b bs w) (hBw : B ≤ w.heap.size) (h1 : ∀ v ∈ bs, v.oneCell' = true) (hlim : bs.length + 1 ≤ 140737488355328) :
    Calls Tryd.prog 87 #[.pointer (some ⟨b, 0, none⟩), .int .u8 c] w fun e w' => e = .returned .nilIface ∧ Lib.IsBuffer 86 5 B b (bs ++ [.int .u8 c]) w' ∧ Below B w w' ∧ Lib.OthersKept 5 (some b) w w' := Any.Buffer_WriteByte_kept lays179 B b bs c w h hBw h1 hlim
theorem Buffer_String (B b : Nat) (l : List UInt8) (w : World) (h : Lib.IsBuffer 86 5 B b (Lib.byteCells l) w) :
    Calls Tryd.prog 85 #[.pointer (some ⟨b, 0, none⟩)] w fun e w' => e = .returned (.string ⟨l.toArray⟩) ∧ ∃ n, w' = w.drewN n := Any.Buffer_String lays182 B b l w h
theorem Buffer_Reset (B b : Nat) (bs : List Value) (w : World) (h : Lib.IsBuffer 86 5 B b bs w) :
    Calls Tryd.prog 51 #[.pointer (some ⟨b, 0, none⟩)] w fun e w' => e = .returned (.tuple #[]) ∧ Lib.IsBuffer 86 5 B b [] w' ∧ Below B w w' := Any.Buffer_Reset lays184 B b bs w h
end Go.Proofs.YtjdmaflkafmmpaaDoor
/-
  PLAIN: how the decoder's number of pending bits goes with the bits themselves.
-/
namespace Go.Proofs.YtjdmaflkafmmpaaDoor.HP

theorem split_bits {q : List Bool} (cl : Nat) {m : Nat} (hq : q.length = m + cl) : ofBits q = ofBits (q.take cl) * 2 ^ m + ofBits (q.drop cl) := by
  have e : ofBits (q.take cl ++ q.drop cl) = ofBits (q.take cl) * 2 ^ (q.drop cl).length + ofBits (q.drop cl) := ofBits_append _ _
  rw [List.take_append_drop, List.length_drop, hq, Nat.add_sub_cancel] at e
  exact e

theorem low_bits {C m cl : Nat} {q : List Bool} (hq : q.length = m + cl) (hC : C % 2 ^ (m + cl) = ofBits q) : C % 2 ^ m = ofBits (q.drop cl) := by
  have h1 := split_bits cl hq
  have h2 : ofBits (q.drop cl) < 2 ^ m := by
    have := ofBits_lt (q.drop cl)
    rw [List.length_drop, hq, Nat.add_sub_cancel] at this
    exact this
  have h3 : C % 2 ^ m = C % 2 ^ (m + cl) % 2 ^ m := by
    rw [Nat.mod_mod_of_dvd _ (Nat.pow_dvd_pow 2 (Nat.le_add_right m cl))]
  rw [h3, hC, h1, Nat.mul_comm, Nat.mul_add_mod, Nat.mod_eq_of_lt h2]

theorem top8 {C m : Nat} {q : List Bool} (hq : q.length = m + 8) (hC : C % 2 ^ (m + 8) = ofBits q) : C / 2 ^ m % 256 = ofBits (q.take 8) := by
  have h1 := split_bits 8 hq
  have h2 : ofBits (q.drop 8) < 2 ^ m := by
    have := ofBits_lt (q.drop 8)
    rw [List.length_drop, hq, Nat.add_sub_cancel] at this
    exact this
  have h3 : C / 2 ^ m % 256 = C % 2 ^ (m + 8) / 2 ^ m := by
    rw [Nat.pow_add, Nat.mod_mul_right_div_self]
  rw [h3, hC, h1, Nat.mul_comm, Nat.mul_add_div (Nat.two_pow_pos m), Nat.div_eq_of_lt h2, Nat.add_zero]

theorem ofBits_zeros (j : Nat) : ofBits (List.replicate j false) = 0 := by
  induction j with
  | zero => rfl
  | succ j ih => rw [List.replicate_succ, ofBits_cons, ih]; simp

theorem pad_bits {C m : Nat} {q : List Bool} (_hq : q.length = m) (hm : m ≤ 8) (hC : C % 2 ^ m = ofBits q) : C * 2 ^ (8 - m) % 256 = ofBits (q ++ List.replicate (8 - m) false) := by
  rw [ofBits_append, ofBits_zeros, List.length_replicate, Nat.add_zero, ← hC, ← Nat.mul_mod_mul_right, ← Nat.pow_add, Nat.add_sub_of_le hm]

theorem ones_bits (m : Nat) : ofBits (List.replicate m true) = 2 ^ m - 1 := by
  rw [← bitsOf_ones, ofBits_bitsOf, Nat.mod_eq_of_lt (by have := Nat.two_pow_pos m; omega)]

theorem all_ones {C m : Nat} {q : List Bool} (hq : q.length = m) (hC : C % 2 ^ m = ofBits q) : C % 2 ^ m = 2 ^ m - 1 ↔ q.all id = true := by
  rw [hC, ← ones_bits]
  constructor
  · intro h
    have := ofBits_inj (by rw [hq, List.length_replicate]) h
    rw [this]; simp
  · intro h
    have : q = List.replicate m true := by
      rw [← hq, List.eq_replicate_iff]
      exact ⟨rfl, fun b hb => by simpa using List.all_eq_true.1 h b hb⟩
    rw [← this]

theorem pl_le : ∀ k, k < 15 → pl k ≤ 24 := by decide
theorem leaf_cl {k i s cl : Nat} (h : tab k i = .leaf s cl) : s < 256 ∧ 1 ≤ cl ∧ cl ≤ 8 ∧ (hlen s - 1) % 8 + 1 = cl := by
  obtain ⟨h1, h2, h3, _, h4, _⟩ := leaf_ok h
  have e : pl k = 8 * (pathL.getD k []).length := rfl
  exact ⟨h1, h2, h3, by omega⟩
end Go.Proofs.YtjdmaflkafmmpaaDoor.HP
/-
  The contract of huffmanDecode, without a bound on the text's length: it answers as the plain decoder does.
-/
namespace Go.Proofs.YtjdmaflkafmmpaaDoor
open Go.ChangeShapes Go.WideShapes Go.ChangeAt Go.RowKit

/-- The bytes that a call reads: a slice's, below block B. -/
def Src (B : Nat) (sa : Option Addr) (v : List UInt8) (w : World) : Prop := v ≠ [] → ∃ g o, sa = some ⟨g, o, none⟩ ∧ g < B ∧ ∀ i (h : i < v.length), w.cell? ⟨g, o + i, none⟩ = some (.int .u8 (v[i].toNat : Nat))

theorem Src.below {B : Nat} {sa : Option Addr} {v : List UInt8} {w w' : World} (h : Src B sa v w) (hb : Below B w w') : Src B sa v w' := fun hv => by
  obtain ⟨g, o, e, hg, hc⟩ := h hv
  exact ⟨g, o, e, hg, fun i hi => (hb.cell (p := ⟨g, o + i, none⟩) hg).trans (hc i hi)⟩

abbrev IsBuf (B b : Nat) (t : List UInt8) (w : World) : Prop := Lib.IsBuffer 86 5 B b (Lib.byteCells t) w

/-- How the decoder ends. -/
def DecEnds (B b : Nat) (ev : Value) : Option (List UInt8) → Ending → World → Prop
  | some t, e, w' => e = .returned .nilIface ∧ IsBuf B b t w'
  | none, e, w' => e = .returned ev ∧ ∃ t, IsBuf B b t w'

theorem leafV_done {s : Nat} (hs : s < 256) : leafV 256 (s * 3) = .pointer none ∧ leafV 256 (s * 3 + 1) = .int .u8 (cl8 s : Nat) ∧ leafV 256 (s * 3 + 2) = .int .u8 (s : Nat) := by
  have e1 : (s * 3 + 1) / 3 = s := by omega
  have e2 : (s * 3 + 2) / 3 = s := by omega
  unfold leafV
  refine ⟨by rw [if_pos (by omega)], ?_, ?_⟩
  · rw [if_neg (by omega), if_pos (by omega), if_pos (by omega), e1]
  · rw [if_neg (by omega), if_pos (by omega), if_neg (by omega), e2]

theorem byteCells_snoc (l : List UInt8) {s : Nat} (hs : s < 256) : Lib.byteCells l ++ [.int .u8 (s : Nat)] = Lib.byteCells (l ++ [UInt8.ofNat s]) := by
  simp [Lib.byteCells]
  omega
theorem byteCells_len (l : List UInt8) : (Lib.byteCells l).length = l.length := Lib.byteCells_length l

theorem feed_step {f kk : Nat} {l : List Bool} {out : List UInt8} (h8 : 8 ≤ l.length) (hf : l.length ≤ f + 7) : ∃ f', f = f' + 1 ∧ HP.feed f ⟨kk, l, out⟩ = (match HP.tab kk (HP.ofBits (l.take 8)) with
      | .none => none
      | .leaf s cl => HP.feed f' ⟨0, l.drop cl, out ++ [UInt8.ofNat s]⟩
      | .inner k' => HP.feed f' ⟨k', l.drop 8, out⟩) := by
  cases f with
  | zero => omega
  | succ f' =>
    refine ⟨f', rfl, ?_⟩
    rw [HP.feed, if_neg (show ¬ l.length < 8 by omega)]
    rfl
theorem feed_done {f kk : Nat} {l : List Bool} {out : List UInt8} (h8 : l.length < 8) : HP.feed f ⟨kk, l, out⟩ = some ⟨kk, l, out⟩ := by
  cases f with
  | zero => rfl
  | succ f' => rw [HP.feed, if_pos h8]

theorem fin_step {f kk : Nat} {l : List Bool} {out : List UInt8} (h0 : 0 < l.length) (hf : l.length ≤ f) : ∃ f', f = f' + 1 ∧ HP.fin f ⟨kk, l, out⟩ = (match HP.tab kk (HP.ofBits (l ++ List.replicate (8 - l.length) false)) with
      | .none => none
      | .inner _ => some ⟨kk, l, out⟩
      | .leaf s cl => if l.length < cl then some ⟨kk, l, out⟩ else HP.fin f' ⟨0, l.drop cl, out ++ [UInt8.ofNat s]⟩) := by
  cases f with
  | zero => omega
  | succ f' =>
    refine ⟨f', rfl, ?_⟩
    rw [HP.fin, if_neg (show ¬ l = [] by intro h; rw [h] at h0; cases h0)]
    rfl
theorem fin_done {f kk : Nat} {l : List Bool} {out : List UInt8} (h0 : l.length = 0) : HP.fin f ⟨kk, l, out⟩ = some ⟨kk, l, out⟩ := by
  cases f with
  | zero => rfl
  | succ f' => rw [HP.fin, if_pos (List.eq_nil_of_length_eq_zero h0)]
theorem pad_index {C m x : Nat} (h : C * 2 ^ (8 - m) % 256 = x) : IntKind.u64.wrap ((C : Int) * 2 ^ (8 - m)) % 256 = (x : Int) := by
  have e : IntKind.u64.wrap ((C : Int) * 2 ^ (8 - m)) = ((C * 2 ^ (8 - m) % 2 ^ 64 : Nat) : Int) := by
    simp [IntKind.wrap, IntKind.bits, IntKind.signed]
  have e2 : C * 2 ^ (8 - m) % 2 ^ 64 % 256 = x := by rw [Nat.mod_mod_of_dvd _ (by decide), h]
  rw [e]
  omega

theorem mask_is : ∀ m, m < 8 → IntKind.u64.wrap (IntKind.u64.wrap ((2 : Int) ^ m) - 1) = ((2 ^ m - 1 : Nat) : Int) := by decide
theorem mask_test {C m : Nat} {l : List Bool} (hC : C < 2 ^ 64) (hm : m < 8) (hl : l.length = m) (hCl : C % 2 ^ m = HP.ofBits l) {r : Bool} (hr : l.all id = r) :
    (bits BinOp.and IntKind.u64 (C : Int) (IntKind.u64.wrap (IntKind.u64.wrap (2 ^ m) - 1)) != IntKind.u64.wrap (IntKind.u64.wrap (2 ^ m) - 1)) = !r := by
  have h2 : 2 ^ m - 1 < 2 ^ 64 := by
    have : (2 : Nat) ^ m ≤ 2 ^ 8 := Nat.pow_le_pow_right (by decide) (by omega)
    omega
  have ha := HP.all_ones hl hCl
  rw [mask_is m hm, bits_and_u64_nat _ _ hC h2, Nat.and_two_pow_sub_one_eq_mod, ← hr]
  by_cases h : l.all id = true
  · rw [h, ha.2 h]; simp
  · have hne : ¬ C % 2 ^ m = 2 ^ m - 1 := fun e => h (ha.1 e)
    rw [Bool.not_eq_true] at h
    rw [h]
    simp only [bne_iff_ne, ne_eq, Bool.not_false]
    exact fun e => hne (by exact_mod_cast e)
theorem mask_zero {C : Nat} (hC : C < 2 ^ 64) : (bits BinOp.and IntKind.u64 (C : Int) 0 != 0) = false := by
  have h := bits_and_u64_nat C 0 hC (by decide)
  rw [show ((0 : Nat) : Int) = 0 from rfl, Nat.and_zero] at h
  rw [h]; rfl

set_option maxRecDepth 100000 in
set_option maxHeartbeats 1000000 in
theorem decode_any (B b cap : Nat) (sa : Option Addr) (v : List UInt8) (ev : Value) (w : World) (hv : v.length ≤ 134217728) (hb : IsBuf B b [] w) (hB : B ≤ w.heap.size) (hsrc : Src B sa v w)
    (hl : LenTab w) (hc : CodeTab w) (he : w.cell? ⟨0, 0, none⟩ = some ev) (hG : 0 < B) :
    Calls Tryd.prog 84 #[.pointer (some ⟨b, 0, none⟩), .int .i64 0, .slice sa v.length cap] w fun e w' =>
      DecEnds B b ev (HP.hdec v) e w' ∧ Below B w w' := by
  have Hl := Lib.hid hl
  have Hc := Lib.hid hc
  have Hb := Lib.hid hb
  have Hsrc := Lib.hid hsrc
  have He := Lib.hid he
  clear hl hc hb hsrc he
  go_enter Tryd.func84, Tryd.ntmps84
  go_wp2_with fail
  refine (tree_any w Hl.out Hc.out).mono ?_
  rintro e w1 ⟨rfl, hm, hbel⟩
  have HT := Lib.hid hm.at
  have HB1 := Lib.hid (Below.mono hbel hB)
  have Hb1 := Lib.hid (Hb.out.old hbel)
  have hbN : b < w.heap.size := Hb.out.lt
  have hw1 : w.heap.size ≤ w1.heap.size := hbel.size
  rw [show (w.heap.size + 1 : Nat) = nodeB w.heap.size 0 from rfl]
  generalize hN : w.heap.size = N at *
  clear hm hbel Hb Hl Hc
  go_wp2_with fail
  go_loopw [8, 9, 10, 11, 20] (fun p c q sb i wr => ∃ (k kk C : Nat) (l : List Bool) (out : List UInt8), k ≤ v.length ∧ i = .int .i64 k ∧ p = .pointer (some ⟨nodeB N kk, 0, none⟩) ∧ c = .int .u64 C ∧ C < 2 ^ 64 ∧ q = .int .u8 (l.length : Nat) ∧ sb = .int .u8 ((HP.pl kk + l.length : Nat)) ∧ l.length < 8 ∧ kk < 15 ∧ C % 2 ^ l.length = HP.ofBits l ∧ HP.feedAll v ⟨0, [], []⟩ = HP.feedAll (v.drop k) ⟨kk, l, out⟩ ∧ out.length + l.length ≤ 8 * k ∧ IsBuf B b out wr ∧ Below B w wr ∧ TreeAt N wr) (fun _ _ _ _ i _ => v.length - (intOf i).toNat)
  case atStart => exact ⟨0, 0, 0, [], [], Nat.zero_le _, rfl, rfl, rfl, by decide, rfl, rfl, by decide, by decide, rfl, by rw [List.drop_zero], Nat.zero_le _, Hb1.out, HB1.out, HT.out⟩
  case round =>
    obtain ⟨k, kk, C, l, out, hk, rfl, rfl, rfl, hC, rfl, rfl, hl8, hkk, hCl, hfeed, hout, hbuf, hbel, htree⟩ := hrel
    have HCl := Lib.hid hCl
    have Hfeed := Lib.hid hfeed
    have Hbuf := Lib.hid hbuf
    have Hbel := Lib.hid hbel
    have Htree := Lib.hid htree
    have hpl := HP.pl_le kk hkk
    clear hCl hfeed hbuf hbel htree HT HB1 Hb1
    by_cases hlt : k < v.length
    · have hne : v ≠ [] := by intro h; rw [h] at hlt; cases hlt
      obtain ⟨g, off, rfl, hg, hcell⟩ := (Hsrc.out.below Hbel.out) hne
      have hby := hcell k hlt
      have h256 : v[k].toNat < 256 := by simpa using v[k].toNat_lt
      have hdrop : v.drop k = v[k] :: v.drop (k + 1) := List.drop_eq_getElem_cons hlt
      have HX : Hid (HP.stepX C 8 v[k].toNat % 2 ^ (l.length + 8) = HP.ofBits (l ++ HP.bits8 v[k])) := HP.stepX_bits (L := 8) (C := v[k].toNat) rfl HCl.out h256 (by omega)
      have HXlt := Lib.hid (HP.stepX_lt (X := C) (L := 8) (C := v[k].toNat) (by decide) h256)
      have hor := or_step (X := C) (L := 8) (C := v[k].toNat) (by decide) h256
      have Hf2 := Hfeed.out
      rw [hdrop, HP.feedAll] at Hf2
      dsimp only at Hf2
      have Hf3 := Lib.hid Hf2
      have Hb8 : Hid ((l ++ HP.bits8 v[k]).length = l.length + 8) := by show (l ++ HP.bits8 v[k]).length = _; rw [List.length_append, HP.length_bits8]
      clear hcell hdrop Hf2 Hfeed
      generalize hplk : HP.pl kk = plk at *
      have Hplk := Lib.hid hplk
      clear hplk
      generalize l.length = m at *
      generalize v[k].toNat = bt at *
      generalize hsX : HP.stepX C 8 bt = X at *
      have hx : bits BinOp.or IntKind.u64 (IntKind.u64.wrap ((C : Int) * 256)) (bt : Int) = (X : Int) := by
        have e : IntKind.u64.wrap (bt : Int) = bt := by simp [IntKind.wrap, IntKind.bits, IntKind.signed]; omega
        rw [e] at hor
        exact hor
      clear hor
      go_wp2_with fail
      generalize hF : HP.feed (m + 8) ⟨kk, l ++ HP.bits8 v[k], out⟩ = F at Hf3
      have HF := Lib.hid hF
      clear hF hx
      generalize l ++ HP.bits8 v[k] = l0 at *
      generalize IntKind.u64.wrap ((C : Int) * 256) = wr256
      rw [Int.natCast_add plk m]
      go_loopw [8, 10, 11] (fun p q sb wr => ∃ (f kk : Nat) (l : List Bool) (out : List UInt8), p = .pointer (some ⟨nodeB N kk, 0, none⟩) ∧ q = .int .u8 (l.length : Nat) ∧ sb = .int .u8 ((HP.pl kk + l.length : Nat)) ∧ l.length ≤ 15 ∧ kk < 15 ∧ X % 2 ^ l.length = HP.ofBits l ∧ HP.feed f ⟨kk, l, out⟩ = F ∧ l.length ≤ f + 7 ∧ out.length + l.length ≤ 8 * (k + 1) ∧ IsBuf B b out wr ∧ Below B w wr ∧ TreeAt N wr) (fun _ q _ _ => (intOf q).toNat)
      case atStart =>
        have e8 := Hb8.out
        exact ⟨m + 8, kk, l0, out, rfl, by rw [e8]; go_num, by rw [e8, Hplk.out]; go_num, by omega, hkk, by rw [e8]; exact HX.out, HF.out, by omega, by omega, Hbuf.out, Hbel.out, Htree.out⟩
      case round =>
        obtain ⟨f, kk, l, out, rfl, rfl, rfl, hl15, hkk, hXl, hfe, hlf, hout, hbuf, hbel, htree⟩ := hrel
        have HXl := Lib.hid hXl
        have Hfe := Lib.hid hfe
        have Hbuf := Lib.hid hbuf
        have Hbel := Lib.hid hbel
        have Htree := Lib.hid htree
        have hpl := HP.pl_le kk hkk
        clear hXl hfe hbuf hbel htree
        by_cases h8 : 8 ≤ l.length
        · obtain ⟨f', rfl, hfs⟩ := feed_step (kk := kk) (out := out) h8 hlf
          obtain ⟨m', hm'⟩ : ∃ m', l.length = m' + 8 := ⟨l.length - 8, by omega⟩
          have htop := HP.top8 hm' (by rw [← hm']; exact HXl.out)
          have hx256 : HP.ofBits (l.take 8) < 256 := HP.ofBits8_lt (by omega)
          have hfe := Hfe.out
          rw [hfs] at hfe
          clear hfs Hfe
          have hn := (Htree.out.node kk hkk).cell' (i := 0) (by decide) (show nodeV N kk 0 = .pointer (some ⟨rowB N kk, 0, none⟩) from rfl)
          have hr := (Htree.out.row kk hkk).cell hx256
          have htb : HP.tab kk (HP.ofBits (l.take 8)) = HP.tab kk (HP.ofBits (l.take 8)) := rfl
          generalize HP.ofBits (l.take 8) = x at *
          have hti : (X : Int) / 2 ^ m' % 256 = (x : Int) := by rw [← htop]; simp
          have hxI : (x : Int) < 256 := by omega
          clear htop htb
          rw [hm']
          have Hm' := Lib.hid hm'
          have hlow : ∀ cl, cl ≤ 8 → (l.drop cl).length = m' + 8 - cl ∧ X % 2 ^ (m' + 8 - cl) = HP.ofBits (l.drop cl) := fun cl hcl => ⟨by rw [List.length_drop, Hm'.out], HP.low_bits (m := m' + 8 - cl) (cl := cl) (by rw [Hm'.out]; omega) (by rw [show m' + 8 - cl + cl = l.length by rw [Hm'.out]; omega]; exact HXl.out)⟩
          have Hlow := Lib.hid hlow
          rw [hm'] at hl15 hlf hout
          clear hlow hm' h8
          go_upto_region 12 with (fail)
          rw [hti]
          cases ht : HP.tab kk x with
          | none =>
            rw [ht] at hr hfe
            rw [show entV N .none = .pointer none from rfl] at hr
            have he2 := (Hbel.out.cell (p := ⟨0, 0, none⟩) hG).trans He.out
            have hd : HP.hdec v = none := by unfold HP.hdec; rw [Hf3.out, ← hfe]
            have Hd := Lib.hid hd
            clear ht hfe hd
            go_wp2_with fail
            go_ret
            exact ⟨by rw [Hd.out]; exact ⟨rfl, _, Hbuf.out⟩, Hbel.out⟩
          | inner k' =>
            rw [ht] at hr hfe
            obtain ⟨_, hk', _, hplk', _⟩ := HP.inner_ok ht
            rw [show entV N (.inner k') = .pointer (some ⟨nodeB N k', 0, none⟩) from rfl] at hr
            have hn' := (Htree.out.node k' hk').cell' (i := 0) (by decide) (show nodeV N k' 0 = .pointer (some ⟨rowB N k', 0, none⟩) from rfl)
            have Hfe := Lib.hid hfe
            have Hplk' := Lib.hid hplk'
            clear ht hfe hplk'
            go_wp2_with fail
            obtain ⟨e1, e2⟩ := Hlow.out 8 (by omega)
            rw [Nat.add_sub_cancel] at e1 e2
            exact ⟨⟨f', k', l.drop 8, out, rfl, by rw [e1], by rw [e1, Hplk'.out]; go_num, by omega, hk', by rw [e1]; exact e2, Hfe.out, by omega, by omega, Hbuf.out, Hbel.out, Htree.out⟩, by simp [intOf]; omega⟩
          | leaf s cl =>
            rw [ht] at hr hfe
            obtain ⟨hs, hcl1, hcl8, hcl⟩ := HP.leaf_cl ht
            obtain ⟨v0, v1, v2⟩ := leafV_done hs
            rw [show entV N (.leaf s cl) = .pointer (some ⟨N + 2, s * 3, none⟩) from rfl] at hr
            have c0 := Htree.out.leaves.cell' (i := s * 3) (by omega) v0
            have c2 := Htree.out.leaves.cell' (i := s * 3 + 2) (by omega) v2
            have Hfe := Lib.hid hfe
            have Hcl := Lib.hid hcl
            have Hv1 := Lib.hid v1
            clear ht hfe v0 v1 v2 hcl
            go_wp2_with fail
            refine (Buffer_WriteByte B b _ s _ Hbuf.out (by have := Hbel.out.size; omega) (Lib.byteCells_one _) (by rw [byteCells_len]; omega)).mono ?_
            rintro e w2 ⟨rfl, hb2, hbel2, hk2⟩
            rw [byteCells_snoc out hs] at hb2
            have Hb2 := Lib.hid hb2
            have Hbel2 := Lib.hid (Hbel.out.trans hbel2)
            have Htree2 := Lib.hid (Htree.out.kept hk2 (by omega))
            have c1 := Htree2.out.leaves.cell' (i := s * 3 + 1) (by omega) Hv1.out
            rw [show cl8 s = cl from Hcl.out] at c1
            clear hb2 hbel2 hk2 c0 c2 hr hn Hbuf Hbel Htree
            go_wp2_with fail
            obtain ⟨e1, e2⟩ := Hlow.out cl hcl8
            exact ⟨⟨f', 0, l.drop cl, out ++ [UInt8.ofNat s], rfl, by rw [e1]; go_num, by rw [e1, HP.pl_zero]; go_num, by rw [e1]; omega, by omega, by rw [e1]; exact e2, Hfe.out, by rw [e1]; omega, by rw [List.length_append, e1, List.length_singleton]; omega, Hb2.out, Hbel2.out, Htree2.out⟩, by simp [intOf]; omega⟩
        · have hfd := Hfe.out
          rw [feed_done (by omega)] at hfd
          have Hfd := Lib.hid hfd
          clear hfd
          go_wp2_with fail
          exact ⟨⟨k + 1, kk, X, l, out, by omega, by go_num, rfl, rfl, HXlt.out, rfl, rfl, by omega, hkk, HXl.out, by rw [Hf3.out, ← Hfd.out], by omega, Hbuf.out, Hbel.out, Htree.out⟩, by simp [intOf]; omega⟩
    · obtain rfl : k = v.length := by omega
      have Hf4 : Hid (HP.feedAll v ⟨0, [], []⟩ = some ⟨kk, l, out⟩) := by
        have := Hfeed.out
        rw [List.drop_length, HP.feedAll] at this
        exact this
      clear Hfeed
      have hdc : HP.hdec v = (match HP.fin l.length ⟨kk, l, out⟩ with
          | none => none
          | some st' => if 7 < HP.pl st'.k + st'.q.length then none else if st'.q.all id then some st'.out else none) := by
        unfold HP.hdec; rw [Hf4.out]; rfl
      have Hdc := Lib.hid hdc
      clear hdc
      have hout8 : out.length + l.length ≤ 1073741824 := by omega
      go_wp2_with fail
      generalize hF : HP.fin l.length ⟨kk, l, out⟩ = F at Hdc
      have HF := Lib.hid hF
      clear hF
      go_loopw [8, 10, 11] (fun p q sb wr => ∃ (f kk : Nat) (l : List Bool) (out : List UInt8), p = .pointer (some ⟨nodeB N kk, 0, none⟩) ∧ q = .int .u8 (l.length : Nat) ∧ sb = .int .u8 ((HP.pl kk + l.length : Nat)) ∧ l.length < 8 ∧ kk < 15 ∧ C % 2 ^ l.length = HP.ofBits l ∧ HP.fin f ⟨kk, l, out⟩ = F ∧ l.length ≤ f ∧ out.length + l.length ≤ 1073741824 ∧ IsBuf B b out wr ∧ Below B w wr ∧ TreeAt N wr) (fun _ q _ _ => (intOf q).toNat)
      case atStart => exact ⟨l.length, kk, l, out, rfl, rfl, rfl, hl8, hkk, HCl.out, HF.out, Nat.le_refl _, hout8, Hbuf.out, Hbel.out, Htree.out⟩
      case round =>
        clear hpl hout8 hout hl8 hkk
        obtain ⟨f, kk, l, out, rfl, rfl, rfl, hl8, hkk, hXl, hfe, hlf, hout, hbuf, hbel, htree⟩ := hrel
        have HXl := Lib.hid hXl
        have Hfe := Lib.hid hfe
        have Hbuf := Lib.hid hbuf
        have Hbel := Lib.hid hbel
        have Htree := Lib.hid htree
        have hpl := HP.pl_le kk hkk
        have he2 := (Hbel.out.cell (p := ⟨0, 0, none⟩) hG).trans He.out
        clear hXl hfe hbuf hbel htree
        by_cases h0 : 0 < l.length
        · have hn := (Htree.out.node kk hkk).cell' (i := 0) (by decide) (show nodeV N kk 0 = .pointer (some ⟨rowB N kk, 0, none⟩) from rfl)
          obtain ⟨f', rfl, hfs⟩ := fin_step (kk := kk) (out := out) h0 hlf
          have hfe := Hfe.out
          rw [hfs] at hfe
          clear hfs Hfe
          have hpb := HP.pad_bits rfl (by omega) HXl.out
          have hx256 : HP.ofBits (l ++ List.replicate (8 - l.length) false) < 256 := by rw [← hpb]; exact Nat.mod_lt _ (by decide)
          have hti := pad_index hpb
          have hr := (Htree.out.row kk hkk).cell hx256
          generalize HP.ofBits (l ++ List.replicate (8 - l.length) false) = x at *
          have hxI : (x : Int) < 256 := by omega
          clear hpb
          have hlow : ∀ cl, cl ≤ l.length → (l.drop cl).length = l.length - cl ∧ C % 2 ^ (l.length - cl) = HP.ofBits (l.drop cl) := fun cl hcl => ⟨by rw [List.length_drop], HP.low_bits (m := l.length - cl) (cl := cl) (by omega) (by rw [show l.length - cl + cl = l.length by omega]; exact HXl.out)⟩
          have Hlow := Lib.hid hlow
          clear hlow
          generalize hm : l.length = m at *
          have Hm := Lib.hid hm
          clear hm
          cases ht : HP.tab kk x with
          | none =>
            rw [ht] at hr hfe
            rw [show entV N .none = .pointer none from rfl] at hr
            have hd : HP.hdec v = none := by rw [Hdc.out, ← hfe]
            have Hd := Lib.hid hd
            clear ht hfe hd
            go_wp2_with fail
            go_ret
            exact ⟨by rw [Hd.out]; exact ⟨rfl, _, Hbuf.out⟩, Hbel.out⟩
          | inner k' =>
            rw [ht] at hr hfe
            obtain ⟨_, hk', _, _, _⟩ := HP.inner_ok ht
            rw [show entV N (.inner k') = .pointer (some ⟨nodeB N k', 0, none⟩) from rfl] at hr
            have hn' := (Htree.out.node k' hk').cell' (i := 0) (by decide) (show nodeV N k' 0 = .pointer (some ⟨rowB N k', 0, none⟩) from rfl)
            have Hfin : Hid (HP.hdec v = if 7 < HP.pl kk + m then none else if l.all id then some out else none) := by
              show HP.hdec v = _
              rw [Hdc.out, ← hfe, ← Hm.out]
            clear ht hfe
            by_cases h7 : 7 < HP.pl kk + m
            · go_wp2_with fail
              go_ret
              exact ⟨by rw [Hfin.out, if_pos h7]; exact ⟨rfl, _, Hbuf.out⟩, Hbel.out⟩
            · by_cases hall : l.all id = true
              · have hmk := mask_test hC hl8 Hm.out HXl.out hall
                go_wp2_with fail
                go_ret
                exact ⟨by rw [Hfin.out, if_neg h7, if_pos hall]; exact ⟨rfl, Hbuf.out⟩, Hbel.out⟩
              · have hmk := mask_test hC hl8 Hm.out HXl.out (Bool.not_eq_true _ ▸ hall)
                go_wp2_with fail
                go_ret
                exact ⟨by rw [Hfin.out, if_neg h7, if_neg hall]; exact ⟨rfl, _, Hbuf.out⟩, Hbel.out⟩
          | leaf s cl =>
            rw [ht] at hr hfe
            obtain ⟨hs, hcl1, hcl8, hcl⟩ := HP.leaf_cl ht
            obtain ⟨v0, v1, v2⟩ := leafV_done hs
            rw [show cl8 s = cl from hcl] at v1
            rw [show entV N (.leaf s cl) = .pointer (some ⟨N + 2, s * 3, none⟩) from rfl] at hr
            have c0 := Htree.out.leaves.cell' (i := s * 3) (by omega) v0
            have c1 := Htree.out.leaves.cell' (i := s * 3 + 1) (by omega) v1
            have c2 := Htree.out.leaves.cell' (i := s * 3 + 2) (by omega) v2
            have Hv1 := Lib.hid v1
            clear ht v0 v1 v2 hcl
            by_cases hmc : m < cl
            · have Hfin : Hid (HP.hdec v = if 7 < HP.pl kk + m then none else if l.all id then some out else none) := by
                show HP.hdec v = _
                dsimp only at hfe
                rw [if_pos hmc] at hfe
                rw [Hdc.out, ← hfe, ← Hm.out]
              clear hfe
              by_cases h7 : 7 < HP.pl kk + m
              · go_wp2_with fail
                go_ret
                exact ⟨by rw [Hfin.out, if_pos h7]; exact ⟨rfl, _, Hbuf.out⟩, Hbel.out⟩
              · by_cases hall : l.all id = true
                · have hmk := mask_test hC hl8 Hm.out HXl.out hall
                  go_wp2_with fail
                  go_ret
                  exact ⟨by rw [Hfin.out, if_neg h7, if_pos hall]; exact ⟨rfl, Hbuf.out⟩, Hbel.out⟩
                · have hmk := mask_test hC hl8 Hm.out HXl.out (Bool.not_eq_true _ ▸ hall)
                  go_wp2_with fail
                  go_ret
                  exact ⟨by rw [Hfin.out, if_neg h7, if_neg hall]; exact ⟨rfl, _, Hbuf.out⟩, Hbel.out⟩
            · dsimp only at hfe
              rw [if_neg hmc] at hfe
              have Hfe := Lib.hid hfe
              clear hfe
              go_wp2_with fail
              refine (Buffer_WriteByte B b _ s _ Hbuf.out (by have := Hbel.out.size; omega) (Lib.byteCells_one _) (by rw [byteCells_len]; omega)).mono ?_
              rintro e w2 ⟨rfl, hb2, hbel2, hk2⟩
              rw [byteCells_snoc out hs] at hb2
              have Hb2 := Lib.hid hb2
              have Hbel2 := Lib.hid (Hbel.out.trans hbel2)
              have Htree2 := Lib.hid (Htree.out.kept hk2 (by omega))
              have c1' := Htree2.out.leaves.cell' (i := s * 3 + 1) (by omega) Hv1.out
              clear hb2 hbel2 hk2 c0 c1 c2 hr hn Hbuf Hbel Htree he2
              go_wp2_with fail
              obtain ⟨e1, e2⟩ := Hlow.out cl (by omega)
              exact ⟨⟨f', 0, l.drop cl, out ++ [UInt8.ofNat s], rfl, by rw [e1]; go_num, by rw [e1, HP.pl_zero]; go_num, by rw [e1]; omega, by omega, by rw [e1]; exact e2, Hfe.out, by rw [e1]; omega, by rw [List.length_append, e1, List.length_singleton]; omega, Hb2.out, Hbel2.out, Htree2.out⟩, by simp [intOf]; omega⟩
        · have hl0 : l.length = 0 := by omega
          have hfe := Hfe.out
          rw [fin_done hl0] at hfe
          have hall : l.all id = true := by rw [List.eq_nil_of_length_eq_zero hl0]; rfl
          have Hfin : Hid (HP.hdec v = if 7 < HP.pl kk + l.length then none else if l.all id then some out else none) := by
            show HP.hdec v = _
            rw [Hdc.out, ← hfe]
          clear hfe Hfe
          rw [hl0]
          rw [hl0, Nat.add_zero] at Hfin
          have hmk := mask_zero hC
          by_cases h7 : 7 < HP.pl kk
          · go_wp2_with fail
            go_ret
            exact ⟨by rw [Hfin.out, if_pos h7]; exact ⟨rfl, _, Hbuf.out⟩, Hbel.out⟩
          · go_wp2_with fail
            go_ret
            exact ⟨by rw [Hfin.out, if_neg h7, if_pos hall]; exact ⟨rfl, Hbuf.out⟩, Hbel.out⟩
#print axioms decode_any
end Go.Proofs.YtjdmaflkafmmpaaDoor
/-
  Contracts of HuffmanDecodeToString, codeOf and HuffmanText.
-/
namespace Go.Proofs.YtjdmaflkafmmpaaDoor
open Go.ChangeShapes Go.WideShapes Go.ChangeAt Go.RowKit

/-- How a decoder's text is told, with an error. -/
def TextEnds (ev : Value) : Option (List UInt8) → Ending → Prop
  | some t, e => e = .returned (.tuple #[.string ⟨t.toArray⟩, .nilIface])
  | none, e => e = .returned (.tuple #[.string ByteArray.empty, ev])


theorem codeOf_nil (w : World) : Calls Tryd.prog 25 #[.nilIface] w fun e w' => e = .returned (.tuple #[.int .i64 0, .int .i64 0]) ∧ w = w' := by
  go_enter Tryd.func25, Tryd.ntmps25
  go_wp2
  go_ret2
  exact ⟨rfl, rfl⟩

theorem assert61 (p : Value) (w : World) : (Instr.typeAssert (.iface 125 p) 79 101 true).run Tryd.prog w = .ok (.tuple #[.agg #[.nilIface], .bool false]) w := by
  simp [Instr.typeAssert, run_underlying Tryd.underlying101, Tryd.zeroValue101]
theorem assert63 (p : Value) (w : World) : (Instr.typeAssert (.iface 125 p) 79 103 true).run Tryd.prog w = .ok (.tuple #[.int .i64 0, .bool false]) w := by
  simp [Instr.typeAssert, run_underlying Tryd.underlying103, Tryd.zeroValue103]

theorem info85 : (Tryd.prog.info? 125).map (·.comparable) = some true := by kernel_rfl
theorem eql_same (a : Addr) (w : World) : (binOp .eql 79 (.iface 125 (.pointer (some a))) (.iface 125 (.pointer (some a)))).run Tryd.prog w = .ok (.bool true) w := by
  obtain ⟨i, hi, hc⟩ : ∃ i, Tryd.prog.info? 125 = some i ∧ i.comparable = true := by
    have h := info85
    cases hi : Tryd.prog.info? 125 with
    | none => rw [hi] at h; cases h
    | some i => rw [hi] at h; exact ⟨i, rfl, by simpa using h⟩
  obtain ⟨j, hj⟩ : ∃ j, Tryd.prog.info? 127 = some j := Option.isSome_iff_exists.1 (by kernel_rfl)
  exact run_eql_iface_ptr_same w a Tryd.underlying79 Tryd.underlying125 hi hc hj

set_option maxRecDepth 100000 in
theorem codeOf_inv (a : Addr) (w : World) (he : w.cell? ⟨0, 0, none⟩ = some (.iface 125 (.pointer (some a)))) :
    Calls Tryd.prog 25 #[.iface 125 (.pointer (some a))] w fun e w' => e = .returned (.tuple #[.int .i64 2, .int .i64 0]) ∧ Below w.heap.size w w' := by
  have hG : 0 < w.heap.size := World.block_lt_of_cell? w ⟨0, 0, none⟩ he
  go_enter Tryd.func25, Tryd.ntmps25
  have h61 := assert61 (.pointer (some a))
  have h63 := assert63 (.pointer (some a))
  have heq := eql_same a
  go_wp2_with fail
  go_ret2
  exact ⟨rfl, (Below.refl _ _).alloc (Nat.le_refl _) _⟩
end Go.Proofs.YtjdmaflkafmmpaaDoor
/-
  The contract of impl.HuffmanText.
-/
namespace Go.Proofs.YtjdmaflkafmmpaaDoor
open Go.ChangeShapes Go.WideShapes Go.ChangeAt Go.RowKit

/-- The bytes of any slice. -/
def SrcAny (sa : Option Addr) (cap : Nat) (v : List UInt8) (w : World) : Prop := (sa = none ∧ cap = 0 ∧ v = []) ∨ ∃ a, sa = some a ∧ ∀ q u, (Lib.byteCells v)[q]? = some u → w.cell? (a.add q) = some u

theorem src_of_own {w : World} {B cap : Nat} {sa : Option Addr} {v : List UInt8} (h : w.ownsRow B 5 1 (.slice sa v.length cap) v.length (Lib.byteCells v)) : Src w.heap.size sa v w := by
  intro hv
  rcases h.2 with ⟨_, hn⟩ | ⟨g, cap', cur, e, _, hg, _, _, hcs, htk⟩
  · exact absurd (List.eq_nil_of_length_eq_zero hn) hv
  · injection e with e1 _ _
    refine ⟨g, 0, e1, Lib.lt_of_heap hg, fun i hi => ?_⟩
    rw [Nat.zero_add, Lib.cell_of_heap hg, ← Array.getElem?_toList]
    have h1 : (cur.toList.take (v.length * 1))[i]? = (Lib.byteCells v)[i]? := by rw [htk]
    rw [List.getElem?_take, if_pos (by omega)] at h1
    rw [h1]
    simp [Lib.byteCells, hi]

/-- What HuffmanText tells. -/
def textOf : Option (List UInt8) → Value
  | some t => .tuple #[.string ⟨t.toArray⟩, .int .i64 0]
  | none => .tuple #[.string ByteArray.empty, .int .i64 2]

end Go.Proofs.YtjdmaflkafmmpaaDoor
