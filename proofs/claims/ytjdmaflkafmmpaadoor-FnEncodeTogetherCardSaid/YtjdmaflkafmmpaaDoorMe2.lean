/-
  Texts of this seat, one behind the other: HD4, HD5, HE, HE2, HuffLen, HuffEnc, HuffApp, Node, Rowm, Tab. What each one shows stands at its head. No condition.
-/
import Derived.Test.YtjdmaflkafmmpaaDoorMe1
import Derived.Test.YtjdmaflkafmmpaaDoorRows
import Derived.WalkKit
import Derived.WalkLawsBesides
import Derived.Outline
import Derived.Lib.Hide
import Derived.Lib.LaidTab
import Derived.Maps.AppendAt
import Derived.Deep.DeepMust
import Derived.Lib.UnsafeStr
import Derived.Lib.BufferWrite
import Derived.Lib.OthersKept
import Derived.Deep.LoopGhost
import Derived.BigQuiet
import Derived.Deep.QuietTactic
import Derived.Laws.CopyRow
import Derived.Laws.OwnMore
import Derived.Lib.OwnKind
/-
  PLAIN: the steps of a decoder, as the thin package does them, and what each one tells. No program in sight.
-/
namespace Go.Proofs.YtjdmaflkafmmpaaDoor.HD

/-- A decoder between two steps: its state, the bytes that it keeps. -/
structure DS where
  st : St
  save : Bs
inductive Cmd where
  | write (v : Bs)
  | close
  | full (v : Bs)
  | on (b : Bool)
  | resize (n : Nat)
  | allow (n : Nat)
  | isOn
/-- What a step tells. -/
structure Ans where
  out : List Fld
  lst : List Fld
  flag : Bool
  err : Option Er

def Cmd.bytes : Cmd → Bs
  | .write v => v
  | .full v => v
  | _ => []
/-- Whether a step takes bytes. -/
def Cmd.takes : Cmd → Bool
  | .write _ => true
  | .full _ => true
  | _ => false
def Cmd.len (c : Cmd) : Nat := c.bytes.length

def dstep (σ : DS) : Cmd → DS × Ans
  | .write v => (⟨(write σ.st σ.save v).st, (write σ.st σ.save v).save⟩, ⟨(write σ.st σ.save v).out, [], false, (write σ.st σ.save v).err⟩)
  | .close => (⟨(close σ.st σ.save).st, (close σ.st σ.save).save⟩, ⟨[], [], false, (close σ.st σ.save).err⟩)
  | .full v =>
    let r := write σ.st σ.save v
    match r.err with
    | some e => (⟨r.st, r.save⟩, ⟨[], [], false, some e⟩)
    | none =>
      let q := close r.st r.save
      match q.err with
      | some e => (⟨q.st, q.save⟩, ⟨[], [], false, some e⟩)
      | none => (⟨q.st, q.save⟩, ⟨[], r.out, false, none⟩)
  | .on b => (⟨{ σ.st with on := b }, σ.save⟩, ⟨[], [], false, none⟩)
  | .resize n => (⟨{ σ.st with ents := evict n σ.st.ents, max := n }, σ.save⟩, ⟨[], [], false, none⟩)
  | .allow n => (⟨{ σ.st with allowed := n }, σ.save⟩, ⟨[], [], false, none⟩)
  | .isOn => (σ, ⟨[], [], σ.st.on, none⟩)
def drun (σ : DS) : List Cmd → List Ans
  | [] => []
  | c :: cs => (dstep σ c).2 :: drun (dstep σ c).1 cs

/-- The code of an error, and the index that it tells. -/
def code : Option Er → Int
  | none => 0
  | some .huff => 2
  | some (.index _) => 1
  | some .coding => 4
def idx : Option Er → Int
  | some (.index i) => IntKind.i64.wrap (i : Nat)
  | _ => 0

/-- What the laws read of answers: the fields up to the first refusal, its error. -/
def rd (acc : List Fld) : List Ans → List Fld × Option Er
  | [] => (acc, none)
  | a :: l => match a.err with
    | some e => (acc ++ a.out, some e)
    | none => rd (acc ++ a.out) l
end Go.Proofs.YtjdmaflkafmmpaaDoor.HD
/-
  PLAIN: the bytes of an integer, and that they are read back; what reading a size update tells. No program in sight.
-/
namespace Go.Proofs.YtjdmaflkafmmpaaDoor.HD

/-- The bytes of a number behind its prefix. -/
def digs (n : Nat) : Bs := if h : 128 ≤ n then UInt8.ofNat (n % 128 + 128) :: digs (n / 128) else [UInt8.ofNat n]
termination_by n
decreasing_by omega
def intg (above bits n : Nat) : Bs := if n < 2 ^ bits - 1 then [UInt8.ofNat (above + n)] else UInt8.ofNat (above + (2 ^ bits - 1)) :: digs (n - (2 ^ bits - 1))

theorem toNat_of {n : Nat} (h : n < 256) : (UInt8.ofNat n).toNat = n := by
  rw [UInt8.toNat_ofNat', Nat.mod_eq_of_lt (by simpa using h)]

theorem vcont_digs : ∀ (n i k : Nat) (r : Bs), n < 2 ^ (7 * (9 - k)) → k ≤ 8 → vcont (digs n ++ r) i (7 * k) = .ok (i + n * 2 ^ (7 * k)) r := by
  intro n
  induction n using Nat.strongRecOn with
  | ind n ih =>
    intro i k r hn hk
    rw [digs]
    split
    · rename_i h
      have hk7 : k ≤ 7 := by
        rcases Nat.lt_or_ge 7 k with h8 | h8
        · obtain rfl : k = 8 := by omega
          simp at hn; omega
        · exact h8
      rw [List.cons_append, vcont, toNat_of (by omega), if_neg (by omega), if_neg (by omega)]
      have e1 : (n % 128 + 128) % 128 = n % 128 := by omega
      have e2 : 7 * k + 7 = 7 * (k + 1) := by omega
      rw [e1, e2, ih (n / 128) (by omega) _ (k + 1) r ?_ (by omega)]
      · have e3 : 2 ^ (7 * (k + 1)) = 128 * 2 ^ (7 * k) := by rw [Nat.mul_add, Nat.pow_add, Nat.mul_comm]
        rw [e3, Nat.add_assoc, ← Nat.mul_assoc, ← Nat.add_mul, Nat.mul_comm (n / 128) 128, Nat.add_comm (n % 128), Nat.div_add_mod]
      · have e4 : 2 ^ (7 * (9 - k)) = 128 * 2 ^ (7 * (9 - (k + 1))) := by
          rw [show 7 * (9 - k) = 7 * (9 - (k + 1)) + 7 by omega, Nat.pow_add, Nat.mul_comm]
        omega
    · rw [List.cons_append, vcont, toNat_of (by omega), if_pos (by omega), Nat.mod_eq_of_lt (by omega)]
      rfl
theorem rvi_intg {above bits n : Nat} {r : Bs} (ha : above + 2 ^ bits ≤ 256) (hm : above % 2 ^ bits = 0) (hn : n < 2 ^ 63) : rvi bits (intg above bits n ++ r) = .ok n r := by
  have hp : 0 < 2 ^ bits := Nat.two_pow_pos bits
  unfold intg
  split
  · rename_i h
    rw [List.cons_append, rvi, toNat_of (by omega), Nat.add_mod, hm, Nat.zero_add, Nat.mod_mod, Nat.mod_eq_of_lt (by omega), if_pos h]
    rfl
  · rename_i h
    rw [List.cons_append, rvi, toNat_of (by omega), Nat.add_mod, hm, Nat.zero_add, Nat.mod_mod, Nat.mod_eq_of_lt (by omega), if_neg (by omega), vcont_digs _ _ 0 _ (by simp; omega) (by omega)]
    congr 1
    simp; omega
theorem intg_head (above bits n : Nat) : ∃ x p, x ≤ 2 ^ bits - 1 ∧ intg above bits n = UInt8.ofNat (above + x) :: p := by
  unfold intg
  split
  · exact ⟨n, [], by omega, rfl⟩
  · exact ⟨_, _, Nat.le_refl _, rfl⟩
theorem digs_len : ∀ (n k : Nat), n < 2 ^ (7 * k) → (digs n).length ≤ k + 1 := by
  intro n
  induction n using Nat.strongRecOn with
  | ind n ih =>
    intro k hn
    rw [digs]
    split
    · cases k with
      | zero => simp at hn; omega
      | succ k =>
        have e4 : 2 ^ (7 * (k + 1)) = 128 * 2 ^ (7 * k) := by rw [Nat.mul_add, Nat.pow_add, Nat.mul_comm]
        have := ih (n / 128) (by omega) k (by omega)
        simp; omega
    · simp

/-- Reading a size update. -/
theorem pRepr_upd {s : St} {n : Nat} (hn : n < 2 ^ 63) (hf : s.first = true) (r : Bs) : pRepr s (intg 32 5 n ++ r) = if s.allowed < n then .bad .coding else .ok (evict n s.ents) n none r := by
  have h := rvi_intg (above := 32) (bits := 5) (n := n) (r := r) (by decide) (by decide) hn
  obtain ⟨x, p, hx, e⟩ := intg_head 32 5 n
  rw [e, List.cons_append] at h ⊢
  rw [pRepr, toNat_of (by simp at hx; omega), if_neg (by simp at hx; omega), if_neg (by simp at hx; omega), if_neg (by omega), if_neg (by omega), pUpd, h, hf]
  simp
theorem intg_ne (above bits n : Nat) : intg above bits n ≠ [] := by
  obtain ⟨x, p, -, e⟩ := intg_head above bits n
  rw [e]; simp

def tooCmds (a n : Nat) : List Cmd := [.allow a, .write (intg 32 5 n), .close]
theorem wr_nil : ∀ (k : Nat) (s : St) (out : List Fld), wr k s out [] = ⟨s, out, [], none⟩
  | 0, _, _ => rfl
  | _ + 1, _, _ => rfl
theorem tooLarge_rd (size a n : Nat) (hn : n < 2 ^ 63) : rd [] (drun ⟨⟨[], size, size, true, true⟩, []⟩ (tooCmds a n)) = ([], if a < n then some .coding else none) := by
  have h := pRepr_upd (s := ⟨[], size, a, true, true⟩) hn rfl []
  rw [List.append_nil] at h
  obtain ⟨x, p, -, e⟩ := intg_head 32 5 n
  have hw : write ⟨[], size, a, true, true⟩ [] (intg 32 5 n) = if a < n then ⟨⟨[], size, a, true, false⟩, [], [], some .coding⟩ else ⟨⟨[], n, a, true, false⟩, [], [], none⟩ := by
    rw [write, if_neg (intg_ne _ _ _), List.nil_append]
    rw [e] at h ⊢
    rw [List.length_cons, wr, h]
    by_cases hc : a < n
    · simp only [hc, if_true]
    · simp only [hc, if_false, wr_nil, evict]; rfl
  simp only [tooCmds, drun, dstep, hw, rd]
  by_cases hc : a < n
  · simp [hc]
  · simp [hc, close]
end Go.Proofs.YtjdmaflkafmmpaaDoor.HD
/-
  PLAIN: what an encoder writes for a field, and that a decoder reads it back. No program in sight.
-/
namespace Go.Proofs.YtjdmaflkafmmpaaDoor.HD

/-- A text as it is written. -/
def estr (s : Bs) : Bs := if (HP.henc s).length < s.length then intg 128 7 (HP.henc s).length ++ HP.henc s else intg 0 7 s.length ++ s
def tbyte (idx sens : Bool) : Nat := if sens then 16 else if idx then 64 else 0
def tbits (idx : Bool) : Nat := if idx then 6 else 4
/-- A field as it is written: m: as an index; i: its name's index, or 0; idx: it is added. -/
def efld (m : Bool) (i : Nat) (idx : Bool) (f : Fld) : Bs :=
  if m then intg 128 7 i
  else if i = 0 then UInt8.ofNat (tbyte idx f.sens) :: (estr f.name ++ estr f.value)
  else intg (tbyte idx f.sens) (tbits idx) i ++ estr f.value

theorem rstr_estr (s r : Bs) (hs : s.length < 2 ^ 62) : ∃ h b, rstr (estr s ++ r) = .ok h b r ∧ dstr h b = some s := by
  unfold estr
  split
  · rename_i hl
    refine ⟨true, HP.henc s, ?_, by simp [dstr, HP.hdec_henc]⟩
    have h := rvi_intg (above := 128) (bits := 7) (n := (HP.henc s).length) (r := HP.henc s ++ r) (by decide) (by decide) (by omega)
    obtain ⟨x, p, hx, e⟩ := intg_head 128 7 (HP.henc s).length
    rw [List.append_assoc]
    rw [e, List.cons_append] at h ⊢
    rw [rstr, h]
    simp only [List.length_append]
    rw [if_neg (by omega), toNat_of (by simp at hx; omega), List.take_left', List.drop_left'] <;> first | rfl | simp
  · rename_i hl
    refine ⟨false, s, ?_, rfl⟩
    have h := rvi_intg (above := 0) (bits := 7) (n := s.length) (r := s ++ r) (by decide) (by decide) (by omega)
    obtain ⟨x, p, hx, e⟩ := intg_head 0 7 s.length
    rw [List.append_assoc]
    rw [e, List.cons_append] at h ⊢
    rw [rstr, h]
    simp only [List.length_append]
    rw [if_neg (by omega), toNat_of (by simp at hx; omega), List.take_left', List.drop_left'] <;> first | rfl | (simp at hx ⊢; omega) | simp

/-- What an index that is written must be. -/
def Found (ents : List (Bs × Bs)) (f : Fld) (m : Bool) (i : Nat) : Prop :=
  i < 2 ^ 62 ∧ (m = true → f.sens = false ∧ entAt ents i = some (f.name, f.value)) ∧ (m = false → i ≠ 0 → ∃ v, entAt ents i = some (f.name, v))

theorem pVal_back (s : St) (idx : Bool) (sens : Bool) (hs : s.on = true) (nm : Sum Bs (Bool × Bs)) (n v r : Bs) (hn : (match nm with | .inl n => some n | .inr (h, b) => dstr h b) = some n) (hv : v.length < 2 ^ 62) :
    pVal s idx sens nm (estr v ++ r) = pEnd s idx sens n v r := by
  obtain ⟨h, b, h1, h2⟩ := rstr_estr v r hv
  unfold pVal
  rw [h1]
  simp only [hs, Bool.true_or, if_true, h2]
  cases nm with
  | inl n' =>
    obtain rfl : n' = n := Option.some.inj hn
    rfl
  | inr p =>
    have hn : dstr p.1 p.2 = some n := hn
    simp only [hn]

theorem pLit_back (s : St) (idx : Bool) (f : Fld) (hs : s.on = true) (hx : idx = true → f.sens = false) (i : Nat) (r : Bs) (hF : Found s.ents f false i) (hn : f.name.length < 2 ^ 62) (hv : f.value.length < 2 ^ 62) :
    pLit s (tbits idx) idx f.sens (efld false i idx f ++ r) = pEnd s idx f.sens f.name f.value r := by
  have ht : tbyte idx f.sens + 2 ^ tbits idx ≤ 256 ∧ tbyte idx f.sens % 2 ^ tbits idx = 0 := by
    cases idx <;> cases hf : f.sens <;> simp_all [tbyte, tbits]
  unfold efld
  rw [if_neg (by decide)]
  by_cases h0 : i = 0
  · rw [if_pos h0]
    have hi : intg (tbyte idx f.sens) (tbits idx) 0 = [UInt8.ofNat (tbyte idx f.sens)] := by
      unfold intg
      rw [if_pos (by cases idx <;> decide)]
      rfl
    have h := rvi_intg (above := tbyte idx f.sens) (bits := tbits idx) (n := 0) (r := estr f.name ++ (estr f.value ++ r)) ht.1 ht.2 (by decide)
    rw [hi] at h
    obtain ⟨hh, b, h1, h2⟩ := rstr_estr f.name (estr f.value ++ r) hn
    have e : UInt8.ofNat (tbyte idx f.sens) :: (estr f.name ++ estr f.value) ++ r = [UInt8.ofNat (tbyte idx f.sens)] ++ (estr f.name ++ (estr f.value ++ r)) := by simp
    rw [e, pLit, h]
    simp only [Nat.lt_irrefl, if_false, h1]
    exact pVal_back s idx f.sens hs _ f.name f.value r h2 hv
  · rw [if_neg h0]
    have h := rvi_intg (above := tbyte idx f.sens) (bits := tbits idx) (n := i) (r := estr f.value ++ r) ht.1 ht.2 (by have := hF.1; omega)
    obtain ⟨v, hv'⟩ := hF.2.2 rfl h0
    rw [List.append_assoc, pLit, h]
    simp only [if_pos (Nat.pos_of_ne_zero h0), hv']
    exact pVal_back s idx f.sens hs _ f.name f.value r rfl hv

/-- A field is read back. -/
theorem pRepr_back (s : St) (hs : s.on = true) (f : Fld) (m : Bool) (i : Nat) (idx : Bool) (r : Bs) (hF : Found s.ents f m i) (hx : idx = true → f.sens = false) (hn : f.name.length < 2 ^ 62) (hv : f.value.length < 2 ^ 62) :
    pRepr s (efld m i idx f ++ r) = .ok (if m = false ∧ idx = true then evict s.max (s.ents ++ [(f.name, f.value)]) else s.ents) s.max (some f) r := by
  cases m with
  | true =>
    obtain ⟨hsens, he⟩ := hF.2.1 rfl
    have h := rvi_intg (above := 128) (bits := 7) (n := i) (r := r) (by decide) (by decide) (by have := hF.1; omega)
    have e1 : efld true i idx f = intg 128 7 i := by unfold efld; rw [if_pos rfl]
    rw [e1]
    obtain ⟨x, p, hx', e⟩ := intg_head 128 7 i
    rw [e, List.cons_append] at h ⊢
    rw [pRepr, toNat_of (by simp at hx'; omega), if_pos (by omega), pIdx, h]
    simp only [he, tell, hs, if_true]
    obtain ⟨n, v, ss⟩ := f
    obtain rfl : ss = false := hsens
    simp
  | false =>
    have hl := pLit_back s idx f hs hx i r hF hn hv
    have hhead : ∃ x p, efld false i idx f ++ r = UInt8.ofNat (tbyte idx f.sens + x) :: p ∧ x ≤ 2 ^ tbits idx - 1 := by
      unfold efld
      rw [if_neg (by decide)]
      split
      · exact ⟨0, _, by rw [List.cons_append, Nat.add_zero], Nat.zero_le _⟩
      · obtain ⟨x, p, hx', e⟩ := intg_head (tbyte idx f.sens) (tbits idx) i
        exact ⟨x, _, by rw [e, List.append_assoc, List.cons_append], hx'⟩
    obtain ⟨x, p, e, hx'⟩ := hhead
    rw [e] at hl ⊢
    obtain ⟨n, v, ss⟩ := f
    have htl : tell s ⟨n, v, ss⟩ = some ⟨n, v, ss⟩ := by unfold tell; rw [if_pos hs]
    cases idx with
    | true =>
      obtain rfl : ss = false := hx rfl
      simp only [tbyte, tbits] at hl hx' ⊢
      rw [pRepr, toNat_of (by simp at hx' ⊢; omega), if_neg (by simp at hx' ⊢; omega), if_pos (by simp at hx' ⊢)]
      simp at hl ⊢
      rw [hl, pEnd, htl]
      simp
    | false =>
      cases ss with
      | true =>
        simp only [tbyte, tbits] at hl hx' ⊢
        rw [pRepr, toNat_of (by simp at hx' ⊢; omega), if_neg (by simp at hx' ⊢; omega), if_neg (by simp at hx' ⊢; omega), if_neg (by simp at hx' ⊢), if_pos (by simp at hx' ⊢; omega)]
        simp at hl ⊢
        rw [hl, pEnd, htl]
        simp
      | false =>
        simp only [tbyte, tbits] at hl hx' ⊢
        rw [pRepr, toNat_of (by simp at hx' ⊢; omega), if_neg (by simp at hx' ⊢; omega), if_neg (by simp at hx' ⊢; omega), if_pos (by simp at hx' ⊢; omega)]
        simp at hl ⊢
        rw [hl, pEnd, htl]
        simp
end Go.Proofs.YtjdmaflkafmmpaaDoor.HD
/-
  PLAIN: the steps of an encoder, as the thin package does them, and what each one tells. No program in sight.
-/
namespace Go.Proofs.YtjdmaflkafmmpaaDoor.HD

/-- An encoder: its table, its bounds, the smallest size that it was told, whether it must tell a size. -/
structure ES where
  ents : List (Bs × Bs)
  max : Nat
  min : Nat
  limit : Nat
  upd : Bool
inductive ECmd where
  | field (f : Fld)
  | size (n : Nat)
  | limit (n : Nat)
  | ask
/-- What a step tells. -/
structure EAns where
  bytes : Bs
  writes : Nat
  size : Nat

def es0 : ES := ⟨[], 4096, 4294967295, 4096, false⟩
/-- The size updates ahead of a field. -/
def eupd (s : ES) : Bs := if s.upd then (if s.min < s.max then intg 32 5 s.min else []) ++ intg 32 5 s.max else []
/-- Whether a field is added that is not found whole. -/
def eidx (s : ES) (f : Fld) : Bool := !f.sens && decide (esize (f.name, f.value) ≤ s.max)
def esent (s : ES) : ES := { s with min := if s.upd then 4294967295 else s.min, upd := false }
def efs (s : ES) (f : Fld) (m : Bool) : ES := { esent s with ents := if m = false ∧ eidx s f = true then evict s.max (s.ents ++ [(f.name, f.value)]) else s.ents }
def setSize (s : ES) (n : Nat) : ES := { s with ents := evict (Nat.min n s.limit) s.ents, max := Nat.min n s.limit, min := Nat.min s.min (Nat.min n s.limit), upd := true }
def setLimit (s : ES) (n : Nat) : ES := if n < s.max then { s with limit := n, upd := true, ents := evict n s.ents, max := n } else { s with limit := n }

inductive EOk : ES → ECmd → EAns → ES → Prop
  | field (s : ES) (f : Fld) (m : Bool) (i : Nat) (h : Found s.ents f m i) : EOk s (.field f) ⟨eupd s ++ efld m i (eidx s f) f, 1, 0⟩ (efs s f m)
  | size (s : ES) (n : Nat) : EOk s (.size n) ⟨[], 0, 0⟩ (setSize s n)
  | limit (s : ES) (n : Nat) : EOk s (.limit n) ⟨[], 0, 0⟩ (setLimit s n)
  | ask (s : ES) : EOk s .ask ⟨[], 0, s.max⟩ s
def ERun : ES → List ECmd → List EAns → Prop
  | _, [], A => A = []
  | s, c :: cs, A => ∃ a A' s', A = a :: A' ∧ EOk s c a s' ∧ ERun s' cs A'
theorem ERun.len : ∀ {cs : List ECmd} {s : ES} {A : List EAns}, ERun s cs A → A.length = cs.length
  | [], s, A, h => by rw [show A = [] from h]; rfl
  | c :: cs, s, A, h => by
    obtain ⟨a, A', s', rfl, -, h⟩ := h
    simp [h.len]

/-! ### lengths -/
theorem digs_pos (n : Nat) : 0 < (digs n).length := by
  rw [digs]; split <;> simp
theorem intg_le {above bits n : Nat} (hn : n < 2 ^ 62) : (intg above bits n).length ≤ 11 := by
  unfold intg
  split
  · simp
  · have h0 : (2 : Nat) ^ 62 ≤ 2 ^ (7 * 9) := by decide
    have := digs_len (n - (2 ^ bits - 1)) 9 (by omega)
    simp; omega
theorem intg_le' {above bits n : Nat} (hn : n ≤ 2 ^ 20) : (intg above bits n).length ≤ 5 := by
  unfold intg
  split
  · simp
  · have h0 : (2 : Nat) ^ (7 * 3) = 2097152 := by decide
    have := digs_len (n - (2 ^ bits - 1)) 3 (by omega)
    simp; omega
theorem estr_le {s : Bs} (h : s.length ≤ 2 ^ 20) : (estr s).length ≤ 5 + s.length := by
  unfold estr
  split
  · have := intg_le' (above := 128) (bits := 7) (n := (HP.henc s).length) (by omega)
    simp; omega
  · have := intg_le' (above := 0) (bits := 7) (n := s.length) (by omega)
    simp; omega
theorem efld_le {ents : List (Bs × Bs)} {m : Bool} {i : Nat} {idx : Bool} {f : Fld} (hF : Found ents f m i) (h : f.name.length + f.value.length ≤ 2 ^ 20) : (efld m i idx f).length ≤ 16 + f.name.length + f.value.length := by
  have h1 := estr_le (s := f.name) (by omega)
  have h2 := estr_le (s := f.value) (by omega)
  unfold efld
  split
  · have := intg_le (above := 128) (bits := 7) hF.1
    omega
  · split
    · simp; omega
    · have := intg_le (above := tbyte idx f.sens) (bits := tbits idx) hF.1
      simp; omega
theorem efld_ne (m : Bool) (i : Nat) (idx : Bool) (f : Fld) : efld m i idx f ≠ [] := by
  unfold efld
  split
  · exact intg_ne _ _ _
  · split
    · simp
    · intro h
      exact intg_ne _ _ _ (List.append_eq_nil_iff.1 h).1

/-! ### bounds that stay -/
structure ESOk (s : ES) : Prop where
  size : tsize s.ents ≤ s.max
  max : s.max ≤ 2 ^ 31
  limit : s.limit ≤ 2 ^ 31
  min : s.min < 2 ^ 32
theorem es0_ok : ESOk es0 := ⟨by simp [es0, tsize], by decide, by decide, by decide⟩
def ECmd.Fine : ECmd → Prop
  | .field f => f.name.length + f.value.length ≤ 2 ^ 20
  | .size n => n ≤ 2 ^ 31
  | .limit n => n ≤ 2 ^ 31
  | .ask => True
theorem EOk.ok {s s' : ES} {c : ECmd} {a : EAns} (h : EOk s c a s') (hs : ESOk s) (hc : c.Fine) : ESOk s' := by
  cases h with
  | field f m i hF =>
    refine ⟨?_, hs.max, hs.limit, ?_⟩
    · simp only [efs, esent]
      split
      · exact evict_le _ _
      · exact hs.size
    · have := hs.min
      simp only [efs, esent]
      split <;> omega
  | size n =>
    have h1 : Nat.min n s.limit ≤ s.limit := Nat.min_le_right _ _
    have h2 : Nat.min s.min (Nat.min n s.limit) ≤ s.min := Nat.min_le_left _ _
    have h3 := hs.limit
    have h4 := hs.min
    exact ⟨evict_le _ _, by show Nat.min n s.limit ≤ _; omega, h3, by show Nat.min s.min (Nat.min n s.limit) < _; omega⟩
  | limit n =>
    have hc : n ≤ 2 ^ 31 := hc
    unfold setLimit
    split
    · exact ⟨evict_le _ _, hc, hc, hs.min⟩
    · exact ⟨hs.size, hs.max, hc, hs.min⟩
  | ask => exact hs
theorem evict_len (max : Nat) : ∀ l : List (Bs × Bs), (evict max l).length ≤ l.length
  | [] => Nat.le_refl _
  | e :: l => by
    rw [evict]
    split
    · have := evict_len max l; simp; omega
    · exact Nat.le_refl _

/-! ### the laws -/
/-- The sizes as the standard has them. -/
def sizes : Nat → Nat → List ECmd → List Nat
  | _, _, [] => []
  | _, l, .size n :: cs => Nat.min n l :: sizes (Nat.min n l) l cs
  | m, _, .limit n :: cs => Nat.min m n :: sizes (Nat.min m n) n cs
  | m, l, .field _ :: cs => m :: sizes m l cs
  | m, l, .ask :: cs => m :: sizes m l cs
def asked : List ECmd → List ECmd
  | [] => []
  | c :: cs => c :: .ask :: asked cs
theorem sizes_run : ∀ (cs : List ECmd) (s : ES) (A : List EAns), ERun s (asked cs) A → A.length = 2 * cs.length ∧ ∀ i, i < cs.length → (A[2 * i + 1]?).map (·.size) = (sizes s.max s.limit cs)[i]?
  | [], s, A, h => ⟨by rw [show A = [] from h]; rfl, fun i hi => by simp at hi⟩
  | c :: cs, s, A, h => by
    obtain ⟨a, A', s1, rfl, hc, b, A'', s2, rfl, hb, h⟩ := h
    obtain rfl : s2 = s1 := by cases hb; rfl
    obtain rfl : b = ⟨[], 0, s2.max⟩ := by cases hb; rfl
    obtain ⟨h1, h2⟩ := sizes_run cs s2 A'' h
    have key : sizes s.max s.limit (c :: cs) = s2.max :: sizes s2.max s2.limit cs := by
      cases hc with
      | field f m i hF => rfl
      | size n => rfl
      | limit n =>
        unfold setLimit
        split
        · rename_i hlt
          simp only [sizes]
          rw [show Nat.min s.max n = n from Nat.min_eq_right (by omega)]
        · rename_i hlt
          simp only [sizes]
          rw [show Nat.min s.max n = s.max from Nat.min_eq_left (by omega)]
      | ask => rfl
    refine ⟨by simp; omega, fun i hi => ?_⟩
    rw [key]
    cases i with
    | zero => rfl
    | succ i =>
      rw [show 2 * (i + 1) + 1 = (2 * i + 1) + 1 + 1 by omega, List.getElem?_cons_succ, List.getElem?_cons_succ, List.getElem?_cons_succ]
      exact h2 i (by simpa using hi)
theorem one_run : ∀ (cs : List ECmd) (s : ES) (A : List EAns), ERun s cs A → ∀ (i : Nat) (c : ECmd) (a : EAns), cs[i]? = some c → A[i]? = some a → (∃ f, c = .field f ∧ a.writes = 1 ∧ a.bytes ≠ []) ∨ ((∀ f, c ≠ .field f) ∧ a.writes = 0)
  | [], s, A, h, i, c, a, hc, ha => by simp at hc
  | c :: cs, s, A, h, i, x, y, hx, hy => by
    obtain ⟨a, A', s1, rfl, hok, h⟩ := h
    cases i with
    | zero =>
      simp at hx hy
      subst hx; subst hy
      cases hok with
      | field f m i hF => exact Or.inl ⟨_, rfl, rfl, fun h => efld_ne _ _ _ _ (List.append_eq_nil_iff.1 h).2⟩
      | size n => exact Or.inr ⟨(fun f h => by cases h), rfl⟩
      | limit n => exact Or.inr ⟨(fun f h => by cases h), rfl⟩
      | ask => exact Or.inr ⟨(fun f h => by cases h), rfl⟩
    | succ i => exact one_run cs s1 A' h i x y (by simpa using hx) (by simpa using hy)

/-- A decoder that reads the fields of a block. -/
theorem wr_back : ∀ (fs : List Fld) (s : ES) (A : List EAns) (d : St) (out : List Fld) (k : Nat), ERun s (fs.map .field) A → s.upd = false → d.ents = s.ents → d.max = s.max → d.on = true → (∀ f ∈ fs, f.name.length + f.value.length ≤ 2 ^ 20) →
    ((A.map (·.bytes)).flatten).length ≤ k → ∃ d', wr k d out ((A.map (·.bytes)).flatten) = ⟨d', out ++ fs, [], none⟩
  | [], s, A, d, out, k, h, _, _, _, _, _, _ => by
    rw [show A = [] from h]
    exact ⟨d, by rw [List.append_nil]; exact wr_nil k d out⟩
  | f :: fs, s, A, d, out, k, h, hu, he, hm, hon, hf, hk => by
    obtain ⟨a, A', s1, rfl, hok, h⟩ := h
    cases hok with
    | field _ m i hF =>
      have hlen := hf f List.mem_cons_self
      have hue : eupd s = [] := by unfold eupd; rw [hu]; rfl
      rw [List.map_cons, List.flatten_cons] at hk ⊢
      rw [hue, List.nil_append] at hk ⊢
      dsimp only at hk ⊢
      have hp := pRepr_back d hon f m i (eidx s f) ((A'.map (·.bytes)).flatten) (by rw [he]; exact hF) (fun h => by unfold eidx at h; simp at h; exact h.1) (by omega) (by omega)
      have hne := efld_ne m i (eidx s f) f
      obtain ⟨x, p, hx⟩ := List.exists_cons_of_ne_nil hne
      rw [List.length_append] at hk
      have hpos : 0 < (efld m i (eidx s f) f).length := List.length_pos_iff.2 hne
      obtain ⟨k, rfl⟩ : ∃ k', k = k' + 1 := ⟨k - 1, by omega⟩
      obtain ⟨d', hd'⟩ := wr_back fs (efs s f m) A' { d with ents := if m = false ∧ eidx s f = true then evict d.max (d.ents ++ [(f.name, f.value)]) else d.ents, max := d.max, first := false } (out ++ [f]) k h rfl (by simp only [efs, esent, he, hm]) hm hon (fun g hg => hf g (List.mem_cons_of_mem _ hg)) (by omega)
      refine ⟨d', ?_⟩
      have hcons : efld m i (eidx s f) f ++ (A'.map (·.bytes)).flatten = x :: (p ++ (A'.map (·.bytes)).flatten) := by rw [hx]; rfl
      rw [hcons] at hp ⊢
      rw [wr, hp]
      simp only [Option.toList_some]
      rw [hd']
      simp
theorem full_back (fs : List Fld) (A : List EAns) (h : ERun es0 (fs.map .field) A) (hf : ∀ f ∈ fs, f.name.length + f.value.length ≤ 2 ^ 20) :
    (dstep ⟨⟨[], 4096, 4096, true, true⟩, []⟩ (.full ((A.map (·.bytes)).flatten))).2.err = none ∧ (dstep ⟨⟨[], 4096, 4096, true, true⟩, []⟩ (.full ((A.map (·.bytes)).flatten))).2.lst = fs := by
  have hw : ∃ d', write ⟨[], 4096, 4096, true, true⟩ [] ((A.map (·.bytes)).flatten) = ⟨d', fs, [], none⟩ := by
    unfold write
    split
    · rename_i h0
      have : fs = [] := by
        cases fs with
        | nil => rfl
        | cons f fs =>
          obtain ⟨a, A', s1, rfl, hok, h⟩ := h
          cases hok with
          | field _ m i hF =>
            rw [List.map_cons, List.flatten_cons] at h0
            exact absurd (List.append_eq_nil_iff.1 (List.append_eq_nil_iff.1 h0).1).2 (efld_ne _ _ _ _)
      subst this
      exact ⟨_, rfl⟩
    · rw [List.nil_append]
      have := wr_back fs es0 A ⟨[], 4096, 4096, true, true⟩ [] _ h rfl rfl rfl rfl hf (Nat.le_refl _)
      simpa using this
  obtain ⟨d', hd'⟩ := hw
  have hclose : close d' [] = ⟨{ d' with first := true }, [], [], none⟩ := by unfold close; rw [if_pos rfl]
  simp only [dstep, hd', hclose]
  exact ⟨trivial, trivial⟩
/-- How many bytes the answers have. -/
theorem bytes_le : ∀ (fs : List Fld) (s : ES) (A : List EAns), ERun s (fs.map .field) A → s.upd = false → (∀ f ∈ fs, f.name.length + f.value.length ≤ 2 ^ 20) → ((A.map (·.bytes)).flatten).length ≤ (fs.map fun f => 16 + f.name.length + f.value.length).sum
  | [], s, A, h, _, _ => by rw [show A = [] from h]; simp
  | f :: fs, s, A, h, hu, hf => by
    obtain ⟨a, A', s1, rfl, hok, h⟩ := h
    cases hok with
    | field _ m i hF =>
      have h1 := efld_le (idx := eidx s f) hF (hf f List.mem_cons_self)
      have h2 := bytes_le fs (efs s f m) A' h rfl (fun g hg => hf g (List.mem_cons_of_mem _ hg))
      have hue : eupd s = [] := by unfold eupd; rw [hu]; rfl
      rw [List.map_cons, List.flatten_cons, List.map_cons, List.sum_cons, List.length_append]
      show (eupd s ++ efld m i (eidx s f) f).length + _ ≤ _
      rw [hue, List.nil_append]
      omega
end Go.Proofs.YtjdmaflkafmmpaaDoor.HD
/-
  Contracts of HuffmanEncodeLength and HuffmanLength over the table of the codes' lengths: the number of bits of the codes, in whole bytes. Texts of at most 2^20 bytes.
-/
namespace Go.Proofs.YtjdmaflkafmmpaaDoor
open Go.ChangeShapes Go.WideShapes Go.ChangeAt Go.RowKit

/-- The table of the codes' lengths lies in memory. -/
def LenTab (w : World) : Prop := ∀ i, i < 256 → w.cell? ⟨5, i, none⟩ = some (.int .u8 (HP.hlen i : Nat))

theorem hlen_lt (i : Nat) (_h : i < 256) : HP.hlen i ≤ 30 := by
  have : ∀ x ∈ HP.lensL, x ≤ 30 := by decide +kernel
  unfold HP.hlen
  rw [List.getD_eq_getElem?_getD]
  cases hx : HP.lensL[i]? with
  | none => simp
  | some x => exact this x (List.mem_of_getElem? hx)

theorem nbits_snoc (l : List UInt8) (c : UInt8) : HP.nbits (l ++ [c]) = HP.nbits l + HP.hlen c.toNat := by simp [HP.nbits]
theorem take_snoc (s : ByteArray) (k : Nat) (h : k < s.size) : s.data.toList.take (k + 1) = s.data.toList.take k ++ [s[k]] := by
  rw [List.take_succ_eq_append_getElem (by simpa using h)]; rfl
theorem nbits_le (l : List UInt8) : HP.nbits l ≤ 30 * l.length := by
  induction l with
  | nil => simp [HP.nbits]
  | cons c l ih =>
    have := hlen_lt c.toNat (by simpa using c.toNat_lt)
    simp only [HP.nbits, List.map_cons, List.sum_cons, List.length_cons] at ih ⊢
    omega

set_option maxHeartbeats 400000 in
theorem encLen_any (s : ByteArray) (w : World) (hs : s.size ≤ 1048576) (ht : LenTab w) :
    Calls Tryd.prog 71 #[.string s] w fun e w' => e = .returned (.int .u64 (HP.hencLen s.data.toList : Nat)) ∧ w = w' := by
  have Ht := Lib.hid ht
  clear ht
  go_enter Tryd.func71, Tryd.ntmps71
  go_wp2
  go_loop [3, 4] (fun n i => ∃ k : Nat, k ≤ s.size ∧ i = .int .i64 k ∧ n = .int .u64 (HP.nbits (s.data.toList.take k) : Nat)) (fun _ i => s.size - (intOf i).toNat)
  case atStart => exact ⟨0, Nat.zero_le _, rfl, rfl⟩
  case round =>
    obtain ⟨k, hk, rfl, rfl⟩ := hrel
    have hbd := nbits_le (s.data.toList.take k)
    have hlen := List.length_take_le k s.data.toList
    generalize hn : HP.nbits (s.data.toList.take k) = n at *
    have Hn := Lib.hid hn
    clear hn
    have hn30 : n ≤ 31457280 := by omega
    clear hbd hlen
    by_cases hlt : k < s.size
    · have hc := Ht.out s[k].toNat (by simpa using s[k].toNat_lt)
      have h30 := hlen_lt s[k].toNat (by simpa using s[k].toNat_lt)
      have h256 : (s[k].toNat : Int) < 256 := by have := s[k].toNat_lt; omega
      have Hnext : Hid (HP.nbits (s.data.toList.take (k + 1)) = HP.nbits (s.data.toList.take k) + HP.hlen s[k].toNat) := by
        rw [take_snoc s k hlt]; exact nbits_snoc _ _
      go_wp2
      refine ⟨⟨k + 1, by omega, by go_num, by rw [Hnext.out, Hn.out]; go_num⟩, by simp [intOf]; omega⟩
    · go_wp2
      go_ret
      have e : s.data.toList.take k = s.data.toList := List.take_of_length_le (by simp; omega)
      have h2 := Hn.out
      rw [e] at h2
      exact ⟨ret_int (by rw [HP.hencLen, h2]; omega), rfl⟩

end Go.Proofs.YtjdmaflkafmmpaaDoor
/-
  PLAIN: the encoder's buffer of bits, as a number: what a step makes of it, and which bytes it hands on.
-/
namespace Go.Proofs.YtjdmaflkafmmpaaDoor.HP

/-- A step of the encoder's buffer: shifted left, a code put in. -/
def stepX (X L C : Nat) : Nat := 2 ^ L * (X % 2 ^ (64 - L)) + C

theorem stepX_lt {X L C : Nat} (hL : L ≤ 64) (hC : C < 2 ^ L) : stepX X L C < 2 ^ 64 := by
  unfold stepX
  have h1 : X % 2 ^ (64 - L) + 1 ≤ 2 ^ (64 - L) := Nat.mod_lt _ (Nat.two_pow_pos _)
  have h2 : 2 ^ L * (X % 2 ^ (64 - L) + 1) ≤ 2 ^ L * 2 ^ (64 - L) := Nat.mul_le_mul_left _ h1
  rw [← Nat.pow_add, Nat.mul_add, Nat.mul_one] at h2
  have e : L + (64 - L) = 64 := by omega
  rw [e] at h2
  omega

theorem stepX_or {X L C : Nat} (hL : L ≤ 64) (hC : C < 2 ^ L) : (X * 2 ^ L % 2 ^ 64) ||| C = stepX X L C := by
  have e : (64 : Nat) = L + (64 - L) := by omega
  have h : X * 2 ^ L % 2 ^ 64 = 2 ^ L * (X % 2 ^ (64 - L)) := by
    conv => lhs; rw [e, Nat.pow_add, Nat.mul_comm X]
    exact Nat.mul_mod_mul_left _ _ _
  rw [h, stepX, Nat.two_pow_add_eq_or_of_lt hC]

theorem stepX_bits {X m L C : Nat} {r : List Bool} (hr : r.length = m) (hX : X % 2 ^ m = ofBits r) (hC : C < 2 ^ L) (h : m + L ≤ 64) :
    stepX X L C % 2 ^ (m + L) = ofBits (r ++ bitsOf L C) := by
  rw [ofBits_append, length_bitsOf, ofBits_bitsOf, Nat.mod_eq_of_lt hC, ← hX]
  have h1 : X % 2 ^ (64 - L) % 2 ^ m = X % 2 ^ m := Nat.mod_mod_of_dvd _ (Nat.pow_dvd_pow 2 (by omega))
  unfold stepX
  generalize X % 2 ^ (64 - L) = Z at *
  have hd := Nat.div_add_mod Z (2 ^ m)
  have hlt : Z % 2 ^ m < 2 ^ m := Nat.mod_lt _ (Nat.two_pow_pos _)
  have e1 : 2 ^ L * Z + C = 2 ^ (m + L) * (Z / 2 ^ m) + (2 ^ L * (Z % 2 ^ m) + C) := by
    conv => lhs; rw [← hd]
    rw [Nat.mul_add, Nat.pow_add, Nat.mul_comm (2 ^ m) (2 ^ L), Nat.mul_assoc (2 ^ L)]
    omega
  rw [e1, Nat.mul_add_mod, h1, Nat.mul_comm (2 ^ L), Nat.mod_eq_of_lt]
  rw [← h1]
  have h2 : (Z % 2 ^ m + 1) * 2 ^ L ≤ 2 ^ m * 2 ^ L := Nat.mul_le_mul_right _ hlt
  rw [Nat.add_mul, Nat.one_mul, ← Nat.pow_add] at h2
  omega

/-- The bits that stand above the lowest j of them. -/
theorem top_bits {X m j : Nat} {r : List Bool} (hr : r.length = m + j) (hX : X % 2 ^ (m + j) = ofBits r) :
    X / 2 ^ j % 2 ^ m = ofBits (r.take m) ∧ X % 2 ^ j = ofBits (r.drop m) := by
  have hs : ofBits r = ofBits (r.take m) * 2 ^ j + ofBits (r.drop m) := by
    conv => lhs; rw [← List.take_append_drop m r]
    rw [ofBits_append]
    have : (r.drop m).length = j := by simp; omega
    rw [this]
  have hlt : ofBits (r.drop m) < 2 ^ j := by
    have := ofBits_lt (r.drop m)
    have e : (r.drop m).length = j := by simp; omega
    rwa [e] at this
  have hpos : 0 < 2 ^ j := Nat.two_pow_pos _
  have h1 : X / 2 ^ j % 2 ^ m = X % 2 ^ (m + j) / 2 ^ j := by
    rw [Nat.pow_add, Nat.mul_comm (2 ^ m), Nat.mod_mul_right_div_self]
  have h2 : X % 2 ^ j = X % 2 ^ (m + j) % 2 ^ j := by
    rw [Nat.mod_mod_of_dvd]; rw [Nat.pow_add]; exact Nat.dvd_mul_left _ _
  rw [h1, h2, hX, hs]
  constructor
  · rw [Nat.mul_comm, Nat.mul_add_div hpos, Nat.div_eq_of_lt hlt, Nat.add_zero]
  · rw [Nat.mul_comm, Nat.mul_add_mod, Nat.mod_eq_of_lt hlt]

theorem pack_nil : pack [] = [] := rfl

theorem pack8 {l : List Bool} (h : l.length = 8) : pack l = [UInt8.ofNat (ofBits l)] := by
  have := pack_append8 h []
  simpa [pack_nil] using this

theorem pack_split {l : List Bool} {m : Nat} (h : l.length = 8 + m) : ∃ a b, pack l = UInt8.ofNat a :: pack b ∧ b.length = m ∧ ofBits l = a * 2 ^ m + ofBits b ∧ a < 256 := by
  refine ⟨ofBits (l.take 8), l.drop 8, ?_, by simp; omega, ?_, ?_⟩
  · conv => lhs; rw [← List.take_append_drop 8 l]
    rw [pack_append8 (by simp; omega)]
  · conv => lhs; rw [← List.take_append_drop 8 l]
    rw [ofBits_append]
    have : (l.drop 8).length = m := by simp; omega
    rw [this]
  · have := ofBits_lt (l.take 8)
    have e : (l.take 8).length = 8 := by simp; omega
    rwa [e] at this

theorem pack16 {l : List Bool} (h : l.length = 16) : pack l = [UInt8.ofNat (ofBits l / 256), UInt8.ofNat (ofBits l % 256)] := by
  obtain ⟨a, b, h1, h2, h3, h4⟩ := pack_split (m := 8) h
  have hb := ofBits_lt b
  rw [h2] at hb
  rw [h1, pack8 h2, h3]
  have e1 : (a * 2 ^ 8 + ofBits b) / 256 = a := by omega
  have e2 : (a * 2 ^ 8 + ofBits b) % 256 = ofBits b := by omega
  rw [e1, e2]

theorem pack24 {l : List Bool} (h : l.length = 24) : pack l = [UInt8.ofNat (ofBits l / 65536), UInt8.ofNat (ofBits l / 256 % 256), UInt8.ofNat (ofBits l % 256)] := by
  obtain ⟨a, b, h1, h2, h3, h4⟩ := pack_split (m := 16) h
  have hb := ofBits_lt b
  rw [h2] at hb
  rw [h1, pack16 h2, h3]
  have e1 : (a * 2 ^ 16 + ofBits b) / 65536 = a := by omega
  have e2 : (a * 2 ^ 16 + ofBits b) / 256 % 256 = ofBits b / 256 := by omega
  have e3 : (a * 2 ^ 16 + ofBits b) % 256 = ofBits b % 256 := by omega
  rw [e1, e2, e3]

theorem pack32 {l : List Bool} (h : l.length = 32) : pack l = [UInt8.ofNat (ofBits l / 16777216), UInt8.ofNat (ofBits l / 65536 % 256), UInt8.ofNat (ofBits l / 256 % 256), UInt8.ofNat (ofBits l % 256)] := by
  obtain ⟨a, b, h1, h2, h3, h4⟩ := pack_split (m := 24) h
  have hb := ofBits_lt b
  rw [h2] at hb
  rw [h1, pack24 h2, h3]
  have e1 : (a * 2 ^ 24 + ofBits b) / 16777216 = a := by omega
  have e2 : (a * 2 ^ 24 + ofBits b) / 65536 % 256 = ofBits b / 65536 := by omega
  have e3 : (a * 2 ^ 24 + ofBits b) / 256 % 256 = ofBits b / 256 % 256 := by omega
  have e4 : (a * 2 ^ 24 + ofBits b) % 256 = ofBits b % 256 := by omega
  rw [e1, e2, e3, e4]

/-- Ones. -/
theorem bitsOf_ones (n : Nat) : bitsOf n (2 ^ n - 1) = List.replicate n true := by
  induction n with
  | zero => rfl
  | succ n ih =>
    rw [bitsOf]
    have hpos : 0 < 2 ^ n := Nat.two_pow_pos _
    have e1 : (2 ^ (n + 1) - 1) / 2 = 2 ^ n - 1 := by rw [Nat.pow_succ]; omega
    have e2 : (2 ^ (n + 1) - 1) % 2 = 1 := by rw [Nat.pow_succ]; omega
    rw [e1, e2, ih, List.replicate_succ']
    rfl

end Go.Proofs.YtjdmaflkafmmpaaDoor.HP
/-
  The contract of AppendHuffmanString: it appends the text's codes, filled up with ones. Texts of at most 2^20 bytes.
-/
namespace Go.Proofs.YtjdmaflkafmmpaaDoor
open Go.ChangeShapes Go.WideShapes Go.ChangeAt Go.RowKit

/-- The table of the codes lies in memory. -/
def CodeTab (w : World) : Prop := ∀ i, i < 256 → w.cell? ⟨6, i, none⟩ = some (.int .u32 (HP.hcode i : Nat))

/-- What was appended to: no other old block has changed; the new slice lies where the old one lay, or in a new block. -/
structure Grew (w w' : World) (v v' : Value) : Prop where
  grown : w.grownBy w' v.ownBlock
  at_ : v'.ownBlock = v.ownBlock ∨ ∃ g, v'.ownBlock = some g ∧ w.heap.size ≤ g

theorem Grew.refl (w : World) (v : Value) : Grew w w v v := ⟨⟨rfl, rfl, rfl, Nat.le_refl _, fun _ _ _ => rfl⟩, .inl rfl⟩
theorem Grew.trans {w1 w2 w3 : World} {a b c : Value} (h : Grew w1 w2 a b) (k : Grew w2 w3 b c) : Grew w1 w3 a c := by
  refine ⟨⟨k.grown.os.trans h.grown.os, k.grown.tape.trans h.grown.tape, k.grown.output.trans h.grown.output, Nat.le_trans h.grown.size k.grown.size, fun i hi hne => ?_⟩, ?_⟩
  · rw [k.grown.block i (Nat.lt_of_lt_of_le hi h.grown.size) ?_, h.grown.block i hi hne]
    rcases h.at_ with e | ⟨g, e, hg⟩
    · rw [e]; exact hne
    · rw [e]; intro h0; have := Option.some.inj h0; omega
  · rcases k.at_ with e | ⟨g, e, hg⟩
    · rcases h.at_ with e' | ⟨g', e', hg'⟩
      · exact .inl (e.trans e')
      · exact .inr ⟨g', e.trans e', hg'⟩
    · exact .inr ⟨g, e, Nat.le_trans h.grown.size hg⟩

theorem Grew.alloc {w wr : World} {v d : Value} (h : Grew w wr v d) (o : Obj) : Grew w (wr.alloc o) v d :=
  h.trans ⟨World.grownBy_alloc wr o d.ownBlock, .inl rfl⟩
theorem Grew.drew {w wr : World} {v d : Value} (h : Grew w wr v d) : Grew w wr.drew v d :=
  h.trans ⟨⟨rfl, rfl, rfl, Nat.le_refl _, fun _ _ _ => rfl⟩, .inl rfl⟩
/-- A block that lies below what is appended to is as it was. -/
theorem Grew.below {w w' : World} {v v' : Value} {B e size n : Nat} {xs : List Value} (h : Grew w w' v v') (hown : w.ownsRow B e size v n xs) (hB : B ≤ w.heap.size) : Below B w w' :=
  ⟨h.grown.os, h.grown.tape, h.grown.output, h.grown.size, fun k hk => h.grown.block k (by omega) (fun e => by have := hown.lt k e.symm; omega)⟩

theorem hcode_lt (i : Nat) (h : i < 256) : HP.hcode i < 2 ^ HP.hlen i := by
  have : ((List.range 256).all fun c => decide (HP.hcode c < 2 ^ HP.hlen c)) = true := by decide +kernel
  have := List.all_eq_true.1 this i (by simpa using h)
  simpa using this

theorem or_step {X L C : Nat} (hL : L ≤ 30) (hC : C < 2 ^ L) :
    bits BinOp.or IntKind.u64 (IntKind.u64.wrap ((X : Int) * 2 ^ (L % 64))) (IntKind.u64.wrap (C : Int)) = ((HP.stepX X L C : Nat) : Int) := by
  have hC' : C < 18446744073709551616 := Nat.lt_of_lt_of_le hC (Nat.le_trans (Nat.pow_le_pow_right (by decide) hL) (by decide))
  have e1 : IntKind.u64.wrap ((X : Int) * 2 ^ (L % 64)) = ((X * 2 ^ L % 2 ^ 64 : Nat) : Int) := by
    rw [Nat.mod_eq_of_lt (show L < 64 by omega)]
    simp [IntKind.wrap, IntKind.bits, IntKind.signed]
  have e2 : IntKind.u64.wrap (C : Int) = (C : Int) := by
    simp only [IntKind.wrap, IntKind.bits, IntKind.signed]
    simp
    omega
  rw [e1, e2, u64_or_nat _ _ (Nat.mod_lt _ (by decide)) hC', HP.stepX_or (by omega) hC]

theorem news_of_new (w : World) (l : List Value) (t : TypeId) : ∀ (q : Nat) u, l[q]? = some u → (w.alloc (.cells l.toArray t)).cell? ((⟨w.heap.size, 0, none⟩ : Addr).add q) = some u := by
  intro q u h
  have hadd : (⟨w.heap.size, 0, none⟩ : Addr).add q = ⟨w.heap.size, q, none⟩ := by unfold Addr.add; split <;> simp_all
  rw [hadd, World.cell?_alloc_new]
  simpa using h

theorem Grew.app {w wr w1 : World} {v d v1 : Value} {o : Obj} (h : Grew w wr v d) (hg : (wr.alloc o).grownBy w1 d.ownBlock) (hat : v1.ownBlock = d.ownBlock ∨ v1.ownBlock = some (wr.alloc o).heap.size) : Grew w w1 v v1 :=
  (h.alloc o).trans ⟨hg, hat.imp id fun e => ⟨_, e, Nat.le_refl _⟩⟩

theorem byteCell_ofNat (n : Nat) (h : n < 256) : Value.int .u8 (((UInt8.ofNat n).toNat : Nat) : Int) = .int .u8 (n : Int) := by
  rw [UInt8.toNat_ofNat', Nat.mod_eq_of_lt (by simpa using h)]

theorem cells4 {l : List Bool} (h : l.length = 32) {Y : Nat} (hY : Y = HP.ofBits l) :
    [Value.int .u8 ((Y : Int) / 16777216), .int .u8 ((Y : Int) / 65536 % 256), .int .u8 ((Y : Int) / 256 % 256), .int .u8 ((Y : Int) % 256)] = Lib.byteCells (HP.pack l) := by
  have hlt := HP.ofBits_lt l
  rw [h, ← hY] at hlt
  rw [HP.pack32 h, ← hY]
  simp only [Lib.byteCells, List.map_cons, List.map_nil]
  rw [byteCell_ofNat _ (by omega), byteCell_ofNat _ (by omega), byteCell_ofNat _ (by omega), byteCell_ofNat _ (by omega)]
  simp only [Int.natCast_ediv, Int.natCast_emod]
  rfl

theorem cells1 {l : List Bool} (h : l.length = 8) {X : Nat} (hX : X % 2 ^ 8 = HP.ofBits l) : [Value.int .u8 ((X : Int) % 256)] = Lib.byteCells (HP.pack l) := by
  rw [HP.pack8 h, ← hX]
  simp only [Lib.byteCells, List.map_cons, List.map_nil]
  rw [byteCell_ofNat _ (by omega)]
  simp only [Int.natCast_emod]
  rfl
theorem wrap16 (X : Nat) : IntKind.u16.wrap (X : Int) = ((X % 65536 : Nat) : Int) := by simp [IntKind.wrap, IntKind.bits, IntKind.signed]
theorem cells2 {l : List Bool} (h : l.length = 16) {X : Nat} (hX : X % 2 ^ 16 = HP.ofBits l) : [Value.int .u8 (IntKind.u16.wrap (X : Int) / 256 % 256), .int .u8 (IntKind.u16.wrap (X : Int) % 256)] = Lib.byteCells (HP.pack l) := by
  rw [HP.pack16 h, ← hX, wrap16]
  simp only [Lib.byteCells, List.map_cons, List.map_nil]
  rw [byteCell_ofNat _ (by omega), byteCell_ofNat _ (by omega)]
  have e1 : ((X % 65536 : Nat) : Int) / 256 % 256 = ((X % 2 ^ 16 / 256 : Nat) : Int) := by omega
  have e2 : ((X % 65536 : Nat) : Int) % 256 = ((X % 2 ^ 16 % 256 : Nat) : Int) := by omega
  rw [e1, e2]
theorem cells3 {l : List Bool} (h : l.length = 24) {X : Nat} (hX : X % 2 ^ 24 = HP.ofBits l) : [Value.int .u8 (IntKind.u16.wrap ((X : Int) / 256) / 256 % 256), .int .u8 (IntKind.u16.wrap ((X : Int) / 256) % 256), .int .u8 ((X : Int) % 256)] = Lib.byteCells (HP.pack l) := by
  have e0 : (X : Int) / 256 = ((X / 256 : Nat) : Int) := by omega
  rw [HP.pack24 h, ← hX, e0, wrap16]
  simp only [Lib.byteCells, List.map_cons, List.map_nil]
  rw [byteCell_ofNat _ (by omega), byteCell_ofNat _ (by omega), byteCell_ofNat _ (by omega)]
  have e1 : ((X / 256 % 65536 : Nat) : Int) / 256 % 256 = ((X % 2 ^ 24 / 65536 : Nat) : Int) := by omega
  have e2 : ((X / 256 % 65536 : Nat) : Int) % 256 = ((X % 2 ^ 24 / 256 % 256 : Nat) : Int) := by omega
  have e3 : (X : Int) % 256 = ((X % 2 ^ 24 % 256 : Nat) : Int) := by omega
  rw [e1, e2, e3]

theorem henc_split {t D : List UInt8} {rr : List Bool} {p q : Nat} (h : HP.tbits t ++ List.replicate p true = HP.unpack D ++ rr) (hr : rr.length = 8 * q) (hp : p < 8) : HP.henc t = D ++ HP.pack rr := by
  have hl := congrArg List.length h
  simp only [List.length_append, List.length_replicate, HP.length_unpack, hr] at hl
  have e : HP.padOf (HP.tbits t).length = p := by unfold HP.padOf; omega
  rw [HP.henc, e, h, HP.pack_unpack_append]

theorem app_done {B T n q p : Nat} {v1 : Value} {w1 : World} {xs news : List Value} {t D : List UInt8} {rr : List Bool} (hown : w1.ownsRow B T 1 v1 (n + D.length + q) (xs ++ Lib.byteCells D ++ news)) (hnews : news = Lib.byteCells (HP.pack rr)) (hr : rr.length = 8 * q)
    (h : HP.tbits t ++ List.replicate p true = HP.unpack D ++ rr) (hp : p < 8) : w1.ownsRow B T 1 v1 (n + (HP.henc t).length) (xs ++ Lib.byteCells (HP.henc t)) := by
  rw [henc_split h hr hp, List.length_append, HP.length_pack q _ hr, ← Nat.add_assoc]
  have e3 : Lib.byteCells (D ++ HP.pack rr) = Lib.byteCells D ++ Lib.byteCells (HP.pack rr) := by simp [Lib.byteCells]
  rw [e3, ← hnews, ← List.append_assoc]
  exact hown

theorem or_pad {X pd o : Nat} (hp : 1 ≤ pd ∧ pd ≤ 7) (ho : 8 - o = pd) :
    bits BinOp.or IntKind.u64 (IntKind.u64.wrap ((X : Int) * 2 ^ pd)) ((255 : Int) / 2 ^ o) = ((HP.stepX X pd (2 ^ pd - 1) : Nat) : Int) := by
  have hC : 2 ^ pd - 1 < 2 ^ pd := by have := Nat.two_pow_pos pd; omega
  have h := or_step (X := X) (L := pd) (C := 2 ^ pd - 1) (by omega) hC
  rw [Nat.mod_eq_of_lt (show pd < 64 by omega)] at h
  have e : (255 : Int) / 2 ^ o = IntKind.u64.wrap ((2 ^ pd - 1 : Nat) : Int) := by
    have hcase : (o = 1 ∧ pd = 7) ∨ (o = 2 ∧ pd = 6) ∨ (o = 3 ∧ pd = 5) ∨ (o = 4 ∧ pd = 4) ∨ (o = 5 ∧ pd = 3) ∨ (o = 6 ∧ pd = 2) ∨ (o = 7 ∧ pd = 1) := by omega
    rcases hcase with ⟨rfl, rfl⟩ | ⟨rfl, rfl⟩ | ⟨rfl, rfl⟩ | ⟨rfl, rfl⟩ | ⟨rfl, rfl⟩ | ⟨rfl, rfl⟩ | ⟨rfl, rfl⟩ <;> decide
  rw [e]
  exact h

theorem infoU8 : (Tryd.prog.info? 5).map (fun i => (i.zero, i.size, i.bytes)) = some (some (.int .u8 0), 1, 1) := by kernel_rfl

set_option maxRecDepth 100000 in
set_option maxHeartbeats 1000000 in
theorem app_any (B n : Nat) (v : Value) (xs : List Value) (s : ByteArray) (w : World) (hown : w.ownsRow B 5 1 v n xs) (hB : B ≤ w.heap.size) (hG : 5 < B ∧ 6 < B)
    (hs : s.size ≤ 4194304) (hn : n ≤ 1099511627776) (ht : LenTab w) (hc : CodeTab w) :
    Calls Tryd.prog 72 #[v, .string s] w fun e w' => ∃ v', e = .returned v' ∧ w'.ownsRow B 5 1 v' (n + (HP.henc s.data.toList).length) (xs ++ Lib.byteCells (HP.henc s.data.toList)) ∧ Grew w w' v v' := by
  have Ht := Lib.hid ht
  have Hc := Lib.hid hc
  have Hown := Lib.hid hown
  have HG := Lib.hid hG
  clear ht hc hown hG
  go_enter Tryd.func72, Tryd.ntmps72
  go_wp2
  go_loopw [0, 5, 6, 7] (fun d x b i wr => ∃ (k X : Nat) (r : List Bool) (D : List UInt8), k ≤ s.size ∧ i = .int .i64 k ∧ b = .int .u64 r.length ∧ x = .int .u64 X ∧ r.length < 32 ∧ X < 18446744073709551616 ∧ Hid (X % 2 ^ r.length = HP.ofBits r) ∧
      Hid (HP.tbits (s.data.toList.take k) = HP.unpack D ++ r) ∧ wr.ownsRow B 5 1 d (n + D.length) (xs ++ Lib.byteCells D) ∧ Grew w wr v d) (fun _ _ _ i _ => s.size - (intOf i).toNat)
  case atStart => exact ⟨0, 0, [], [], Nat.zero_le _, rfl, rfl, rfl, by simp, by decide, rfl, rfl, by simpa [Lib.byteCells] using Hown.out, Grew.refl _ _⟩
  case round =>
    obtain ⟨k, X, r, D, hk, rfl, rfl, rfl, hr, hX, HX, HT, hown, hgrew⟩ := hrel
    have hbel := hgrew.below Hown.out hB
    have hDn : D.length ≤ 125829120 := by
      have h1 := congrArg List.length HT.out
      rw [HP.length_tbits, List.length_append, HP.length_unpack] at h1
      have h2 := nbits_le (s.data.toList.take k)
      have h3 := List.length_take_le k s.data.toList
      omega
    by_cases hlt : k < s.size
    · have ht1 : wr.cell? ⟨5, s[k].toNat, none⟩ = some (.int .u8 (HP.hlen s[k].toNat : Nat)) := (hbel.cell (p := ⟨5, s[k].toNat, none⟩) HG.out.1).trans (Ht.out _ (by simpa using s[k].toNat_lt))
      have hc1 : wr.cell? ⟨6, s[k].toNat, none⟩ = some (.int .u32 (HP.hcode s[k].toNat : Nat)) := (hbel.cell (p := ⟨6, s[k].toNat, none⟩) HG.out.2).trans (Hc.out _ (by simpa using s[k].toNat_lt))
      have h256 : (s[k].toNat : Int) < 256 := by have := s[k].toNat_lt; omega
      have h30 := hlen_lt s[k].toNat (by simpa using s[k].toNat_lt)
      have HL := Lib.hid hX
      clear hX hbel
      generalize hrl : r.length = m at *
      have Hrl := Lib.hid hrl
      clear hrl
      generalize hLe : HP.hlen s[k].toNat = L at *
      generalize hCe : HP.hcode s[k].toNat = C at *
      have HLe := Lib.hid hLe
      have HCe := Lib.hid hCe
      clear hLe hCe
      have hCL : C < 2 ^ L := by have := hcode_lt s[k].toNat (by simpa using s[k].toNat_lt); rwa [HLe.out, HCe.out] at this
      have hx := or_step (X := X) h30 hCL
      have HX' := Lib.hid (HP.stepX_bits Hrl.out HX.out hCL (by omega))
      have HXlt := Lib.hid (HP.stepX_lt (X := X) (show L ≤ 64 by omega) hCL)
      have HTn : Hid (HP.tbits (s.data.toList.take (k + 1)) = HP.unpack D ++ (r ++ HP.bitsOf L C)) := by
        have h1 := HT.out
        have h2 : HP.tbits [s[k]] = HP.bitsOf L C := by rw [← HLe.out, ← HCe.out]; simp [HP.tbits, HP.cbits]
        show HP.tbits (s.data.toList.take (k + 1)) = _
        rw [take_snoc s k hlt, HP.tbits_append, h1, h2, List.append_assoc]
      have Hrn : Hid ((r ++ HP.bitsOf L C).length = m + L) := by
        have h1 := Hrl.out
        show (r ++ HP.bitsOf L C).length = m + L
        rw [List.length_append, HP.length_bitsOf, h1]
      have Hr : Hid (HP.unpack D ++ (r ++ HP.bitsOf L C) = HP.unpack D ++ (r ++ HP.bitsOf L C)) := rfl
      generalize r ++ HP.bitsOf L C = r' at *
      generalize HP.stepX X L C = X' at *
      clear hCL HT HX Hrl HL HLe HCe Hr
      by_cases h32 : m + L < 32
      · go_wp2_with fail
        refine ⟨⟨k + 1, X', r', D, by omega, by go_num, by rw [Hrn.out]; go_num, rfl, by rw [Hrn.out]; exact h32, by have := HXlt.out; omega, by rw [Hrn.out]; exact HX'.out, HTn.out, hown, hgrew⟩, by simp [intOf]; omega⟩
      · obtain ⟨j, hjl⟩ : ∃ j, m + L = 32 + j := ⟨m + L - 32, by omega⟩
        have hj32 : j < 32 := by omega
        have Hjl := Lib.hid hjl
        have hj1 : ((m : Int) + L) % 32 = (j : Int) := by omega
        have hj2 : (m + L) % 32 = j := by omega
        rw [hjl] at HX' Hrn
        clear hjl
        obtain ⟨Htop, Hlow⟩ := HP.top_bits Hrn.out HX'.out
        have hY : (X' : Int) / 2 ^ j % 4294967296 = ((X' / 2 ^ j % 2 ^ 32 : Nat) : Int) := by simp
        generalize X' / 2 ^ j % 2 ^ 32 = Y at *
        have HY := Lib.hid Htop
        have HZ := Lib.hid Hlow
        clear Htop Hlow
        have hown' := hown.alloc (.cells #[.int .u8 ((Y : Int) / 16777216), .int .u8 ((Y : Int) / 65536 % 256), .int .u8 ((Y : Int) / 256 % 256), .int .u8 ((Y : Int) % 256)] 5)
        obtain ⟨i0, hi, hz0, hz1, hz2⟩ := info_parts infoU8
        have g1 : ∀ (q : Nat) u, [Value.int .u8 ((Y : Int) / 16777216), .int .u8 ((Y : Int) / 65536 % 256), .int .u8 ((Y : Int) / 256 % 256), .int .u8 ((Y : Int) % 256)][q]? = some u → (wr.alloc (.cells #[.int .u8 ((Y : Int) / 16777216), .int .u8 ((Y : Int) / 65536 % 256), .int .u8 ((Y : Int) / 256 % 256), .int .u8 ((Y : Int) % 256)] 5)).cell? ((⟨wr.heap.size, 0, none⟩ : Addr).add q) = some u := news_of_new wr _ 5
        have g2 : ∀ u ∈ [Value.int .u8 ((Y : Int) / 16777216), .int .u8 ((Y : Int) / 65536 % 256), .int .u8 ((Y : Int) / 256 % 256), .int .u8 ((Y : Int) % 256)], u.oneCell' = true := by simp [Value.oneCell']
        have G1 := Lib.hid g1
        clear g1
        have hBr : B ≤ (wr.alloc (.cells #[.int .u8 ((Y : Int) / 16777216), .int .u8 ((Y : Int) / 65536 % 256), .int .u8 ((Y : Int) / 256 % 256), .int .u8 ((Y : Int) % 256)] 5)).heap.size := by have := hgrew.grown.size; simp; omega
        have h63 : n + D.length + 4 ≤ maxLen := by unfold maxLen; omega
        go_wp2_with (at_builtin; go_must (refine wpList_append_own_at _ rfl _ _ 30 rfl B 5 i0 (.int .u8 0) 1 1 Tryd.underlying30 hi hz0 hz1 hz2 rfl (by decide) _ _ _ rfl hown' ⟨wr.heap.size, 0, none⟩ 4 4 [.int .u8 ((Y : Int) / 16777216), .int .u8 ((Y : Int) / 65536 % 256), .int .u8 ((Y : Int) / 256 % 256), .int .u8 ((Y : Int) % 256)] rfl rfl G1.out g2 h63 (by omega) hBr ?_); intro v1 w1 hown1 hgrow1 _ hat1)
        have hgrew1 := Grew.app (d := u0) hgrew hgrow1 hat1
        have h32l : (r'.take 32).length = 32 := by have := Hrn.out; simp; omega
        have hl4 : (HP.pack (r'.take 32)).length = 4 := HP.length_pack 4 _ h32l
        have hown2 : w1.ownsRow B 5 1 v1 (n + (D ++ HP.pack (r'.take 32)).length) (xs ++ Lib.byteCells (D ++ HP.pack (r'.take 32))) := by
          have e := cells4 h32l HY.out
          rw [e] at hown1
          have e2 : n + (D ++ HP.pack (r'.take 32)).length = n + D.length + 4 := by rw [List.length_append, hl4]; omega
          have e3 : Lib.byteCells (D ++ HP.pack (r'.take 32)) = Lib.byteCells D ++ Lib.byteCells (HP.pack (r'.take 32)) := by simp [Lib.byteCells]
          rw [e2, e3, ← List.append_assoc]
          exact hown1
        have HTf : Hid (HP.tbits (s.data.toList.take (k + 1)) = HP.unpack (D ++ HP.pack (r'.take 32)) ++ r'.drop 32) := by
          have h1 := HTn.out
          show HP.tbits (s.data.toList.take (k + 1)) = _
          rw [h1, HP.unpack_append, HP.unpack_pack 4 _ h32l, List.append_assoc, List.take_append_drop]
        have Hdl : Hid ((r'.drop 32).length = j) := by
          have := Hrn.out
          show (r'.drop 32).length = j
          rw [List.length_drop]; omega
        clear hown1 hgrow1 hat1 h32l hl4 G1 hown' hown hgrew hBr h63 g2
        go_wp2_with fail
        refine ⟨⟨k + 1, X', r'.drop 32, _, by omega, by go_num, by rw [Hdl.out], rfl, by rw [Hdl.out]; exact hj32, by have := HXlt.out; omega, by rw [Hdl.out]; exact HZ.out, HTf, hown2, hgrew1⟩, by simp [intOf]; omega⟩
    · have hks : k = s.size := by omega
      have HT2 : Hid (HP.tbits s.data.toList = HP.unpack D ++ r) := by
        have e : s.data.toList.take k = s.data.toList := List.take_of_length_le (by simp; omega)
        have := HT.out
        rw [e] at this
        exact this
      clear HT hbel
      have HL := Lib.hid hX
      clear hX
      generalize hrl : r.length = m at *
      have Hrl := Lib.hid hrl
      clear hrl
      have hk2 : ¬ k < s.size := hlt
      obtain ⟨i0, hi, hz0, hz1, hz2⟩ := info_parts infoU8
      by_cases hov : m % 8 = 0
      · have hov0 : decide ((0 : Int) < (m : Int) % 8) = false := by simp; omega
        have hq : m = 0 ∨ m = 8 ∨ m = 16 ∨ m = 24 := by omega
        rcases hq with rfl | rfl | rfl | rfl
        · go_wp2_with fail
          go_ret
          have e := henc_split (p := 0) (q := 0) (by have := HT2.out; simpa using this) Hrl.out (by omega)
          have e0 : r = [] := List.eq_nil_of_length_eq_zero Hrl.out
          rw [e0, HP.pack_nil, List.append_nil] at e
          exact ⟨u0, rfl, by rw [e]; exact hown, hgrew⟩
        · have G1 := Lib.hid (news_of_new wr [Value.int .u8 ((X : Int) % 256)] 5)
          have g2 : ∀ u ∈ [Value.int .u8 ((X : Int) % 256)], u.oneCell' = true := by simp [Value.oneCell']
          have hBr : B ≤ (wr.alloc (.cells #[Value.int .u8 ((X : Int) % 256)] 5)).heap.size := by have := hgrew.grown.size; simp; omega
          have h63 : n + D.length + 1 ≤ maxLen := by unfold maxLen; omega
          go_wp2_with (at_builtin; go_must (refine wpList_append_own_at _ rfl _ _ 30 rfl B 5 i0 (.int .u8 0) 1 1 Tryd.underlying30 hi hz0 hz1 hz2 rfl (by decide) _ _ _ rfl (hown.alloc _) ⟨wr.heap.size, 0, none⟩ 1 1 [Value.int .u8 ((X : Int) % 256)] rfl rfl G1.out g2 h63 (by omega) hBr ?_); intro v1 w1 hown1 hgrow1 _ hat1; have hgrew1 := Grew.app (d := u0) hgrew hgrow1 hat1; clear hgrow1 hat1)
          go_ret
          exact ⟨v1, rfl, app_done (q := 1) (p := 0) hown1 (cells1 Hrl.out HX.out) Hrl.out (by have := HT2.out; simpa using this) (by omega), hgrew1⟩
        · have G1 := Lib.hid (news_of_new wr [Value.int .u8 (IntKind.u16.wrap (X : Int) / 256 % 256), Value.int .u8 (IntKind.u16.wrap (X : Int) % 256)] 5)
          have g2 : ∀ u ∈ [Value.int .u8 (IntKind.u16.wrap (X : Int) / 256 % 256), Value.int .u8 (IntKind.u16.wrap (X : Int) % 256)], u.oneCell' = true := by simp [Value.oneCell']
          have hBr : B ≤ (wr.alloc (.cells #[Value.int .u8 (IntKind.u16.wrap (X : Int) / 256 % 256), Value.int .u8 (IntKind.u16.wrap (X : Int) % 256)] 5)).heap.size := by have := hgrew.grown.size; simp; omega
          have h63 : n + D.length + 2 ≤ maxLen := by unfold maxLen; omega
          go_wp2_with (at_builtin; go_must (refine wpList_append_own_at _ rfl _ _ 30 rfl B 5 i0 (.int .u8 0) 1 1 Tryd.underlying30 hi hz0 hz1 hz2 rfl (by decide) _ _ _ rfl (hown.alloc _) ⟨wr.heap.size, 0, none⟩ 2 2 [Value.int .u8 (IntKind.u16.wrap (X : Int) / 256 % 256), Value.int .u8 (IntKind.u16.wrap (X : Int) % 256)] rfl rfl G1.out g2 h63 (by omega) hBr ?_); intro v1 w1 hown1 hgrow1 _ hat1; have hgrew1 := Grew.app (d := u0) hgrew hgrow1 hat1; clear hgrow1 hat1)
          go_ret
          exact ⟨v1, rfl, app_done (q := 2) (p := 0) hown1 (cells2 Hrl.out HX.out) Hrl.out (by have := HT2.out; simpa using this) (by omega), hgrew1⟩
        · have G1 := Lib.hid (news_of_new wr [Value.int .u8 (IntKind.u16.wrap ((X : Int) / 256) / 256 % 256), Value.int .u8 (IntKind.u16.wrap ((X : Int) / 256) % 256), Value.int .u8 ((X : Int) % 256)] 5)
          have g2 : ∀ u ∈ [Value.int .u8 (IntKind.u16.wrap ((X : Int) / 256) / 256 % 256), Value.int .u8 (IntKind.u16.wrap ((X : Int) / 256) % 256), Value.int .u8 ((X : Int) % 256)], u.oneCell' = true := by simp [Value.oneCell']
          have hBr : B ≤ (wr.alloc (.cells #[Value.int .u8 (IntKind.u16.wrap ((X : Int) / 256) / 256 % 256), Value.int .u8 (IntKind.u16.wrap ((X : Int) / 256) % 256), Value.int .u8 ((X : Int) % 256)] 5)).heap.size := by have := hgrew.grown.size; simp; omega
          have h63 : n + D.length + 3 ≤ maxLen := by unfold maxLen; omega
          go_wp2_with (at_builtin; go_must (refine wpList_append_own_at _ rfl _ _ 30 rfl B 5 i0 (.int .u8 0) 1 1 Tryd.underlying30 hi hz0 hz1 hz2 rfl (by decide) _ _ _ rfl (hown.alloc _) ⟨wr.heap.size, 0, none⟩ 3 3 [Value.int .u8 (IntKind.u16.wrap ((X : Int) / 256) / 256 % 256), Value.int .u8 (IntKind.u16.wrap ((X : Int) / 256) % 256), Value.int .u8 ((X : Int) % 256)] rfl rfl G1.out g2 h63 (by omega) hBr ?_); intro v1 w1 hown1 hgrow1 _ hat1; have hgrew1 := Grew.app (d := u0) hgrew hgrow1 hat1; clear hgrow1 hat1)
          go_ret
          exact ⟨v1, rfl, app_done (q := 3) (p := 0) hown1 (cells3 Hrl.out HX.out) Hrl.out (by have := HT2.out; simpa using this) (by omega), hgrew1⟩
      · obtain ⟨o, ho⟩ : ∃ o, m % 8 = o := ⟨_, rfl⟩
        obtain ⟨pd, hpd⟩ : ∃ pd, 8 - o = pd := ⟨_, rfl⟩
        have hpd7 : 1 ≤ pd ∧ pd ≤ 7 := by omega
        have ho1 : (m : Int) % 8 = (o : Int) := by omega
        have ho2 : (8 : Int) - (o : Int) = (pd : Int) := by omega
        have hov0 : decide ((0 : Int) < (o : Int)) = true := by simp; omega
        have Hpd := Lib.hid hpd
        have Ho := Lib.hid ho
        clear hpd ho hov
        have hx := or_pad (X := X) hpd7 Hpd.out
        have HX' := Lib.hid (HP.stepX_bits (L := pd) (C := 2 ^ pd - 1) Hrl.out HX.out (by have := Nat.two_pow_pos pd; omega) (by omega))
        rw [HP.bitsOf_ones] at HX'
        have HTn : Hid (HP.tbits s.data.toList ++ List.replicate pd true = HP.unpack D ++ (r ++ List.replicate pd true)) := by
          have := HT2.out
          show HP.tbits s.data.toList ++ List.replicate pd true = _
          rw [this, List.append_assoc]
        have Hrn : Hid ((r ++ List.replicate pd true).length = m + pd) := by
          have h1 := Hrl.out
          show (r ++ List.replicate pd true).length = m + pd
          rw [List.length_append, List.length_replicate, h1]
        generalize r ++ List.replicate pd true = r' at *
        generalize HP.stepX X pd (2 ^ pd - 1) = Z at *
        have hq : m + pd = 8 ∨ m + pd = 16 ∨ m + pd = 24 ∨ m + pd = 32 := by have := Ho.out; have := Hpd.out; omega
        clear HX HT2 Hrl HL Ho Hpd
        rcases hq with hq | hq | hq | hq
        · have hq2 : (m : Int) + (pd : Int) = 8 := by omega
          rw [hq] at HX' Hrn
          clear hq
          have G1 := Lib.hid (news_of_new wr [Value.int .u8 ((Z : Int) % 256)] 5)
          have g2 : ∀ u ∈ [Value.int .u8 ((Z : Int) % 256)], u.oneCell' = true := by simp [Value.oneCell']
          have hBr : B ≤ (wr.alloc (.cells #[Value.int .u8 ((Z : Int) % 256)] 5)).heap.size := by have := hgrew.grown.size; simp; omega
          have h63 : n + D.length + 1 ≤ maxLen := by unfold maxLen; omega
          go_wp2_with (at_builtin; go_must (refine wpList_append_own_at _ rfl _ _ 30 rfl B 5 i0 (.int .u8 0) 1 1 Tryd.underlying30 hi hz0 hz1 hz2 rfl (by decide) _ _ _ rfl (hown.alloc _) ⟨wr.heap.size, 0, none⟩ 1 1 [Value.int .u8 ((Z : Int) % 256)] rfl rfl G1.out g2 h63 (by omega) hBr ?_); intro v1 w1 hown1 hgrow1 _ hat1; have hgrew1 := Grew.app (d := u0) hgrew hgrow1 hat1; clear hgrow1 hat1)
          go_ret
          exact ⟨v1, rfl, app_done (q := 1) (p := pd) hown1 (cells1 Hrn.out HX'.out) Hrn.out HTn.out (by omega), hgrew1⟩
        · have hq2 : (m : Int) + (pd : Int) = 16 := by omega
          rw [hq] at HX' Hrn
          clear hq
          have G1 := Lib.hid (news_of_new wr [Value.int .u8 (IntKind.u16.wrap (Z : Int) / 256 % 256), Value.int .u8 (IntKind.u16.wrap (Z : Int) % 256)] 5)
          have g2 : ∀ u ∈ [Value.int .u8 (IntKind.u16.wrap (Z : Int) / 256 % 256), Value.int .u8 (IntKind.u16.wrap (Z : Int) % 256)], u.oneCell' = true := by simp [Value.oneCell']
          have hBr : B ≤ (wr.alloc (.cells #[Value.int .u8 (IntKind.u16.wrap (Z : Int) / 256 % 256), Value.int .u8 (IntKind.u16.wrap (Z : Int) % 256)] 5)).heap.size := by have := hgrew.grown.size; simp; omega
          have h63 : n + D.length + 2 ≤ maxLen := by unfold maxLen; omega
          go_wp2_with (at_builtin; go_must (refine wpList_append_own_at _ rfl _ _ 30 rfl B 5 i0 (.int .u8 0) 1 1 Tryd.underlying30 hi hz0 hz1 hz2 rfl (by decide) _ _ _ rfl (hown.alloc _) ⟨wr.heap.size, 0, none⟩ 2 2 [Value.int .u8 (IntKind.u16.wrap (Z : Int) / 256 % 256), Value.int .u8 (IntKind.u16.wrap (Z : Int) % 256)] rfl rfl G1.out g2 h63 (by omega) hBr ?_); intro v1 w1 hown1 hgrow1 _ hat1; have hgrew1 := Grew.app (d := u0) hgrew hgrow1 hat1; clear hgrow1 hat1)
          go_ret
          exact ⟨v1, rfl, app_done (q := 2) (p := pd) hown1 (cells2 Hrn.out HX'.out) Hrn.out HTn.out (by omega), hgrew1⟩
        · have hq2 : (m : Int) + (pd : Int) = 24 := by omega
          rw [hq] at HX' Hrn
          clear hq
          have G1 := Lib.hid (news_of_new wr [Value.int .u8 (IntKind.u16.wrap ((Z : Int) / 256) / 256 % 256), Value.int .u8 (IntKind.u16.wrap ((Z : Int) / 256) % 256), Value.int .u8 ((Z : Int) % 256)] 5)
          have g2 : ∀ u ∈ [Value.int .u8 (IntKind.u16.wrap ((Z : Int) / 256) / 256 % 256), Value.int .u8 (IntKind.u16.wrap ((Z : Int) / 256) % 256), Value.int .u8 ((Z : Int) % 256)], u.oneCell' = true := by simp [Value.oneCell']
          have hBr : B ≤ (wr.alloc (.cells #[Value.int .u8 (IntKind.u16.wrap ((Z : Int) / 256) / 256 % 256), Value.int .u8 (IntKind.u16.wrap ((Z : Int) / 256) % 256), Value.int .u8 ((Z : Int) % 256)] 5)).heap.size := by have := hgrew.grown.size; simp; omega
          have h63 : n + D.length + 3 ≤ maxLen := by unfold maxLen; omega
          go_wp2_with (at_builtin; go_must (refine wpList_append_own_at _ rfl _ _ 30 rfl B 5 i0 (.int .u8 0) 1 1 Tryd.underlying30 hi hz0 hz1 hz2 rfl (by decide) _ _ _ rfl (hown.alloc _) ⟨wr.heap.size, 0, none⟩ 3 3 [Value.int .u8 (IntKind.u16.wrap ((Z : Int) / 256) / 256 % 256), Value.int .u8 (IntKind.u16.wrap ((Z : Int) / 256) % 256), Value.int .u8 ((Z : Int) % 256)] rfl rfl G1.out g2 h63 (by omega) hBr ?_); intro v1 w1 hown1 hgrow1 _ hat1; have hgrew1 := Grew.app (d := u0) hgrew hgrow1 hat1; clear hgrow1 hat1)
          go_ret
          exact ⟨v1, rfl, app_done (q := 3) (p := pd) hown1 (cells3 Hrn.out HX'.out) Hrn.out HTn.out (by omega), hgrew1⟩
        · have hq2 : (m : Int) + (pd : Int) = 32 := by omega
          rw [hq] at HX' Hrn
          clear hq
          have hY : (Z : Int) % 4294967296 = ((Z % 2 ^ 32 : Nat) : Int) := by simp
          generalize Z % 2 ^ 32 = Y at *
          have G1 := Lib.hid (news_of_new wr [Value.int .u8 ((Y : Int) / 16777216), Value.int .u8 ((Y : Int) / 65536 % 256), Value.int .u8 ((Y : Int) / 256 % 256), Value.int .u8 ((Y : Int) % 256)] 5)
          have g2 : ∀ u ∈ [Value.int .u8 ((Y : Int) / 16777216), Value.int .u8 ((Y : Int) / 65536 % 256), Value.int .u8 ((Y : Int) / 256 % 256), Value.int .u8 ((Y : Int) % 256)], u.oneCell' = true := by simp [Value.oneCell']
          have hBr : B ≤ (wr.alloc (.cells #[Value.int .u8 ((Y : Int) / 16777216), Value.int .u8 ((Y : Int) / 65536 % 256), Value.int .u8 ((Y : Int) / 256 % 256), Value.int .u8 ((Y : Int) % 256)] 5)).heap.size := by have := hgrew.grown.size; simp; omega
          have h63 : n + D.length + 4 ≤ maxLen := by unfold maxLen; omega
          go_wp2_with (at_builtin; go_must (refine wpList_append_own_at _ rfl _ _ 30 rfl B 5 i0 (.int .u8 0) 1 1 Tryd.underlying30 hi hz0 hz1 hz2 rfl (by decide) _ _ _ rfl (hown.alloc _) ⟨wr.heap.size, 0, none⟩ 4 4 [Value.int .u8 ((Y : Int) / 16777216), Value.int .u8 ((Y : Int) / 65536 % 256), Value.int .u8 ((Y : Int) / 256 % 256), Value.int .u8 ((Y : Int) % 256)] rfl rfl G1.out g2 h63 (by omega) hBr ?_); intro v1 w1 hown1 hgrow1 _ hat1; have hgrew1 := Grew.app (d := u0) hgrew hgrow1 hat1; clear hgrow1 hat1)
          go_ret
          exact ⟨v1, rfl, app_done (q := 4) (p := pd) hown1 (cells4 Hrn.out HX'.out) Hrn.out HTn.out (by omega), hgrew1⟩
end Go.Proofs.YtjdmaflkafmmpaaDoor
/-
  The contract of newInternalNode.
-/
namespace Go.Proofs.YtjdmaflkafmmpaaDoor
open Go.ChangeShapes Go.WideShapes Go.ChangeAt Go.RowKit

theorem zero_of {P : Program} {t : TypeId} {z : Value} (h : (P.info? t).map (fun i => i.zero) = some (some z)) : ∀ w, (zeroValue t).run P w = .ok z w := by
  intro w
  cases hi : P.info? t with
  | none => rw [hi] at h; cases h
  | some i =>
    rw [hi] at h
    simp at h
    simp [zeroValue, typeInfo, hi, h]

/-- The places of a new row. -/
def kids : Array Value := Array.replicate 256 (.pointer none)
theorem kids_ne : kids ≠ #[] := by decide +kernel
theorem kids_size : kids.size = 256 := by decide +kernel
theorem kids_at {i : Nat} (h : i < 256) : kids[i]? = some (.pointer none) := by simp [kids, h]
theorem zero83 : ∀ w, (zeroValue 159).run Tryd.prog w = .ok (.agg kids) w := zero_of (by kernel_rfl)

/-- The world behind a new node. -/
def withNode (w : World) : World := (w.alloc (.cells kids 159)).alloc (.cells #[.pointer (some ⟨w.heap.size, 0, none⟩), .int .u8 0, .int .u8 0] 155)

theorem newNode_any (w : World) :
    Calls Tryd.prog 88 #[] w fun e w' => e = .returned (.pointer (some ⟨w.heap.size + 1, 0, none⟩)) ∧ w' = withNode w := by
  have hz := zero83
  have hne := kids_ne
  go_enter Tryd.func88, Tryd.ntmps88
  go_wp2
  go_ret
  exact ⟨by simp, rfl⟩
end Go.Proofs.YtjdmaflkafmmpaaDoor
/-
  PLAIN: a block of memory whose cells are known, and what stores and new blocks leave of it. And the tree of the Huffman code as it lies in memory.
-/
namespace Go.Proofs.YtjdmaflkafmmpaaDoor
open Go.ChangeShapes Go.WideShapes Go.ChangeAt Go.RowKit

/-- Block b holds n cells, no one frozen, cell i is f i. -/
def Row (w : World) (b n : Nat) (f : Nat → Value) : Prop := ∃ cs t, w.heap[b]? = some (.cells cs t (0, 0)) ∧ cs.size = n ∧ (∀ i, i < n → cs[i]? = some (f i)) ∧ t ≠ 5

namespace Row
variable {w w' : World} {b n : Nat} {f g : Nat → Value}
theorem lt (h : Row w b n f) : b < w.heap.size := by
  obtain ⟨cs, t, h, -⟩ := h
  exact (Array.getElem?_eq_some_iff.1 h).1
theorem cell (h : Row w b n f) {i : Nat} (hi : i < n) : w.cell? ⟨b, i, none⟩ = some (f i) := by
  obtain ⟨cs, t, h, -, hc, -⟩ := h
  simp [World.cell?, h, hc i hi]
theorem cell' (h : Row w b n f) {i : Nat} (hi : i < n) {v : Value} (hv : f i = v) : w.cell? ⟨b, i, none⟩ = some v := hv ▸ h.cell hi
theorem unfrozen (h : Row w b n f) (i : Nat) (s : Option Nat) : w.frozen? ⟨b, i, s⟩ = false := by
  obtain ⟨cs, t, h, -⟩ := h
  simp [World.frozen?, h]
theorem congr (h : Row w b n f) (hfg : ∀ i, i < n → f i = g i) : Row w b n g := by
  obtain ⟨cs, t, h, hn, hc, ht⟩ := h
  exact ⟨cs, t, h, hn, fun i hi => by rw [hc i hi, hfg i hi], ht⟩
theorem of_heap (h : Row w b n f) (e : w'.heap[b]? = w.heap[b]?) : Row w' b n f := by
  obtain ⟨cs, t, h, r⟩ := h
  exact ⟨cs, t, e.trans h, r⟩
theorem alloc (h : Row w b n f) (o : Obj) : Row (w.alloc o) b n f := h.of_heap (by show (w.heap.push o)[b]? = _; rw [Array.getElem?_push, if_neg (Nat.ne_of_lt h.lt)])
theorem setOther (h : Row w b n f) {a : Addr} (ha : b ≠ a.block) (u : Value) : Row (w.setCell a u) b n f := h.of_heap (Below.heap_setCell _ _ _ _ ha)
theorem below {B : Nat} (h : Row w b n f) (hb : Below B w w') (hB : b < B) : Row w' b n f := h.of_heap (hb.block b hB)
theorem set (h : Row w b n f) (j : Nat) (u : Value) : Row (w.setCell ⟨b, j, none⟩ u) b n (fun i => if i = j then u else f i) := by
  obtain ⟨cs, t, h, hn, hc, ht⟩ := h
  refine ⟨cs.setIfInBounds j u, t, ?_, by simp [hn], fun i hi => ?_, ht⟩
  · simp [World.setCell, Array.getElem?_modify, h]
  · rw [Array.getElem?_setIfInBounds]
    by_cases e : j = i
    · subst e; simp [hn, hi]
    · rw [if_neg e, hc i hi]; simp only []; rw [if_neg (fun (h : i = j) => e h.symm)]
theorem new (w : World) {cs : Array Value} (t : TypeId) (ht : t ≠ 5) (hn : cs.size = n) (hc : ∀ i, i < n → cs[i]? = some (f i)) : Row (w.alloc (.cells cs t)) w.heap.size n f := ⟨cs, t, by show (w.heap.push _)[w.heap.size]? = _; simp, hn, hc, ht⟩
theorem kept {c : Nat} (h : Row w b n f) (hk : Lib.OthersKept 5 (some c) w w') (hb : b ≠ c) : Row w' b n f := by
  obtain ⟨cs, t, h, hn, hc, ht⟩ := h
  exact ⟨cs, t, hk b _ h (fun e => hb (Option.some.inj e)) (fun c fz e => ht (by injection e)), hn, hc, ht⟩
end Row

theorem cell_other {w : World} {b j b' i : Nat} {u : Value} (h : b ≠ b') : (w.setCell ⟨b, j, none⟩ u).cell? ⟨b', i, none⟩ = w.cell? ⟨b', i, none⟩ := World.cell?_setCell_other _ _ _ _ (fun e => h (congrArg Addr.block e))

def rowB (N k : Nat) : Nat := if k = 0 then N else N + 2 * k + 1
def nodeB (N k : Nat) : Nat := if k = 0 then N + 1 else N + 2 * k + 2
def entV (N : Nat) : HP.Ent → Value
  | .none => .pointer none
  | .inner k => .pointer (some ⟨nodeB N k, 0, none⟩)
  | .leaf s _ => .pointer (some ⟨N + 2, s * 3, none⟩)
def cl8 (s : Nat) : Nat := (HP.hlen s - 1) % 8 + 1
def nodeV (N k i : Nat) : Value := if i = 0 then .pointer (some ⟨rowB N k, 0, none⟩) else .int .u8 0
def leafV (s i : Nat) : Value := if i % 3 = 0 then .pointer none else if i / 3 < s then (if i % 3 = 1 then .int .u8 (cl8 (i / 3) : Nat) else .int .u8 (i / 3 : Nat)) else .int .u8 0

/-- The tree as it lies in memory from block N on; what the leaves hold is f. -/
structure TreeMem (N : Nat) (f : Nat → Value) (t : HP.TB) (w : World) : Prop where
  size : w.heap.size = N + 2 * t.n + 1
  pos : 1 ≤ t.n
  row : ∀ k, k < t.n → Row w (rowB N k) 256 (fun i => entV N (HP.lookL t.log k i))
  node : ∀ k, k < t.n → Row w (nodeB N k) 3 (nodeV N k)
  leaves : Row w (N + 2) 768 f

theorem rowB_ne {N k k' : Nat} (h : k ≠ k') : rowB N k ≠ rowB N k' := by unfold rowB; split <;> split <;> omega
theorem rowB_node {N k k' : Nat} : rowB N k ≠ nodeB N k' := by unfold rowB nodeB; split <;> split <;> omega
theorem rowB_leaves {N k : Nat} : rowB N k ≠ N + 2 := by unfold rowB; split <;> omega
theorem nodeB_leaves {N k : Nat} : nodeB N k ≠ N + 2 := by unfold nodeB; split <;> omega
theorem le_rowB {N k : Nat} : N ≤ rowB N k := by unfold rowB; split <;> omega
theorem le_nodeB {N k : Nat} : N ≤ nodeB N k := by unfold nodeB; split <;> omega

namespace TreeMem
variable {N : Nat} {f : Nat → Value} {t : HP.TB} {w : World} {n k s c : Nat} {e : HP.Ent} {log : HP.Log}

theorem drew (h : TreeMem N f t w) : TreeMem N f t w.drew := ⟨h.size, h.pos, h.row, h.node, h.leaves⟩

/-- A leaf's cell is written. -/
theorem setLeaf (h : TreeMem N f t w) (j : Nat) (u : Value) : TreeMem N (fun i => if i = j then u else f i) t (w.setCell ⟨N + 2, j, none⟩ u) :=
  ⟨by rw [World.size_setCell]; exact h.size, h.pos, fun k hk => (h.row k hk).setOther rowB_leaves u, fun k hk => (h.node k hk).setOther nodeB_leaves u, h.leaves.set j u⟩

theorem congr {g : Nat → Value} (h : TreeMem N f t w) (hg : ∀ i, i < 768 → f i = g i) : TreeMem N g t w := ⟨h.size, h.pos, h.row, h.node, h.leaves.congr hg⟩

/-- A node's place is written; the log has it ahead. -/
theorem setRow (h : TreeMem N f t w) {k j : Nat} (e : HP.Ent) (_hk : k < t.n) : TreeMem N f ⟨t.n, (k, j, 1, e) :: t.log⟩ (w.setCell ⟨rowB N k, j, none⟩ (entV N e)) := by
  refine ⟨by rw [World.size_setCell]; exact h.size, h.pos, fun k' hk' => ?_, fun k' hk' => (h.node k' hk').setOther (fun e => rowB_node e.symm) _, h.leaves.setOther (fun e => rowB_leaves e.symm) _⟩
  by_cases hkk : k' = k
  · subst hkk
    refine ((h.row k' hk').set j _).congr fun i hi => ?_
    simp only [HP.lookL]
    by_cases hij : i = j
    · subst hij; simp
    · rw [if_neg hij, if_neg (by omega)]
  · refine ((h.row k' hk').setOther (rowB_ne hkk) _).congr fun i hi => ?_
    simp only [HP.lookL]
    rw [if_neg (by omega)]

/-- One place more of a run of leaves is written. -/
theorem setRun (h : TreeMem N f ⟨n, (k, s, c, e) :: log⟩ w) (_hk : k < n) : TreeMem N f ⟨n, (k, s, c + 1, e) :: log⟩ (w.setCell ⟨rowB N k, s + c, none⟩ (entV N e)) := by
  refine ⟨by rw [World.size_setCell]; exact h.size, h.pos, fun k' hk' => ?_, fun k' hk' => (h.node k' hk').setOther (fun e => rowB_node e.symm) _, h.leaves.setOther (fun e => rowB_leaves e.symm) _⟩
  by_cases hkk : k' = k
  · subst hkk
    refine ((h.row k' hk').set (s + c) _).congr fun i hi => ?_
    simp only [HP.lookL, true_and]
    by_cases hij : i = s + c
    · have h1 : s ≤ i ∧ i < s + (c + 1) := by omega
      simp only [if_pos hij, if_pos h1]
    · simp only [if_neg hij]
      by_cases hin : s ≤ i ∧ i < s + c
      · have h1 : s ≤ i ∧ i < s + (c + 1) := by omega
        simp only [if_pos hin, if_pos h1]
      · have h1 : ¬ (s ≤ i ∧ i < s + (c + 1)) := by omega
        simp only [if_neg hin, if_neg h1]
  · refine ((h.row k' hk').setOther (rowB_ne hkk) _).congr fun i hi => ?_
    simp only [HP.lookL]
    rw [if_neg (by omega), if_neg (by omega)]

theorem zeroRun (h : TreeMem N f ⟨n, log⟩ w) (k s : Nat) (e : HP.Ent) : TreeMem N f ⟨n, (k, s, 0, e) :: log⟩ w := by
  refine ⟨h.size, h.pos, fun k' hk' => (h.row k' hk').congr fun i hi => ?_, h.node, h.leaves⟩
  simp only [HP.lookL]
  rw [if_neg (by omega)]

/-- A new node and the place that leads to it. -/
theorem grow (h : TreeMem N f t w) {k j : Nat} (hk : k < t.n) (fresh : ∀ i, HP.lookL t.log t.n i = .none) : TreeMem N f ⟨t.n + 1, (k, j, 1, .inner t.n) :: t.log⟩ ((withNode w).setCell ⟨rowB N k, j, none⟩ (entV N (.inner t.n))) := by
  have hp := h.pos
  have hs := h.size
  have hr : rowB N t.n = w.heap.size := by rw [hs]; unfold rowB; split <;> omega
  have hn : nodeB N t.n = w.heap.size + 1 := by rw [hs]; unfold nodeB; split <;> omega
  have h1 : TreeMem N f ⟨t.n + 1, t.log⟩ (withNode w) := by
    refine ⟨by simp [withNode, hs]; omega, by show 1 ≤ t.n + 1; omega, fun k' hk' => ?_, fun k' hk' => ?_, (h.leaves.alloc _).alloc _⟩
    · by_cases e : k' < t.n
      · exact ((h.row k' e).alloc _).alloc _
      · obtain rfl : k' = t.n := by simp at hk'; omega
        rw [hr]
        exact (Row.new w _ (by decide) kids_size (fun i hi => by rw [kids_at hi]; simp [fresh, entV])).alloc _
    · by_cases e : k' < t.n
      · exact ((h.node k' e).alloc _).alloc _
      · obtain rfl : k' = t.n := by simp at hk'; omega
        rw [hn]
        have := Row.new (n := 3) (f := nodeV N t.n) (w.alloc (.cells kids 159)) (cs := #[.pointer (some ⟨w.heap.size, 0, none⟩), .int .u8 0, .int .u8 0]) 155 (by decide) rfl
          (fun i hi => by rcases i with _ | _ | _ | i <;> simp [nodeV, hr]; omega)
        rw [World.size_alloc] at this
        exact this
  have h2 := h1.setRow (k := k) (j := j) (.inner t.n) (by show k < t.n + 1; omega)
  exact h2
end TreeMem

/-- The tree at its beginning. -/
theorem treeMem_first (w : World) {ls : Array Value} {tl : TypeId} (htl : tl ≠ 5) (hl : ls.size = 768) (hc : ∀ i, i < 768 → ls[i]? = some (leafV 0 i)) :
    TreeMem w.heap.size (leafV 0) ⟨1, []⟩ ((withNode w).alloc (.cells ls tl)) := by
  have e2 : (withNode w).heap.size = w.heap.size + 2 := by simp [withNode]
  refine ⟨by rw [World.size_alloc, e2]; rfl, Nat.le_refl _, fun k hk => ?_, fun k hk => ?_, ?_⟩
  · obtain rfl : k = 0 := by simp at hk; omega
    exact ((Row.new w _ (by decide) kids_size (fun i hi => by rw [kids_at hi]; simp [HP.lookL, entV])).alloc _).alloc _
  · obtain rfl : k = 0 := by simp at hk; omega
    have := Row.new (n := 3) (f := nodeV w.heap.size 0) (w.alloc (.cells kids 159)) (cs := #[.pointer (some ⟨w.heap.size, 0, none⟩), .int .u8 0, .int .u8 0]) 155 (by decide) rfl
      (fun i hi => by rcases i with _ | _ | _ | i <;> simp [nodeV, rowB]; omega)
    rw [World.size_alloc] at this
    exact this.alloc _
  · have := Row.new (n := 768) (f := leafV 0) (withNode w) (cs := ls) tl htl hl hc
    rw [e2] at this
    exact this

/-- The tree once it is built. -/
structure TreeAt (N : Nat) (w : World) : Prop where
  row : ∀ k, k < 15 → Row w (rowB N k) 256 (fun i => entV N (HP.tab k i))
  node : ∀ k, k < 15 → Row w (nodeB N k) 3 (nodeV N k)
  leaves : Row w (N + 2) 768 (leafV 256)
theorem TreeMem.at {N : Nat} {w : World} (h : TreeMem N (leafV 256) ⟨15, HP.finalL⟩ w) : TreeAt N w := ⟨h.row, h.node, h.leaves⟩
theorem TreeAt.kept {N c : Nat} {w w' : World} (h : TreeAt N w) (hk : Lib.OthersKept 5 (some c) w w') (hc : c < N) : TreeAt N w' :=
  ⟨fun k hk' => (h.row k hk').kept hk (by have := @le_rowB N k; omega), fun k hk' => (h.node k hk').kept hk (by have := @le_nodeB N k; omega), h.leaves.kept hk (by omega)⟩
theorem TreeAt.drew {N : Nat} {w : World} (h : TreeAt N w) : TreeAt N w.drew := ⟨h.row, h.node, h.leaves⟩
end Go.Proofs.YtjdmaflkafmmpaaDoor
/-
  The dynamic table in memory, and what its functions do with it.
-/
namespace Go.Proofs.YtjdmaflkafmmpaaDoor
open Go.ChangeShapes Go.WideShapes Go.ChangeAt Go.RowKit

/-- Only blocks of F have changed. -/
structure Upd (F : Nat → Prop) (w w' : World) : Prop where
  os : w'.os = w.os
  tape : w'.tape = w.tape
  output : w'.output = w.output
  size : w.heap.size ≤ w'.heap.size
  block : ∀ k, k < w.heap.size → ¬ F k → w'.heap[k]? = w.heap[k]?
namespace Upd
variable {F G : Nat → Prop} {w w1 w2 : World}
theorem refl (F : Nat → Prop) (w : World) : Upd F w w := ⟨rfl, rfl, rfl, Nat.le_refl _, fun _ _ _ => rfl⟩
theorem trans (h : Upd F w w1) (k : Upd G w1 w2) (hG : ∀ i, i < w.heap.size → G i → F i) : Upd F w w2 :=
  ⟨k.os.trans h.os, k.tape.trans h.tape, k.output.trans h.output, Nat.le_trans h.size k.size, fun i hi hn => (k.block i (Nat.lt_of_lt_of_le hi h.size) fun hg => hn (hG i hi hg)).trans (h.block i hi hn)⟩
theorem step (h : Upd F w w1) (k : Upd F w1 w2) : Upd F w w2 := h.trans k fun _ _ h => h
theorem mono (h : Upd F w w1) (hG : ∀ i, F i → G i) : Upd G w w1 := ⟨h.os, h.tape, h.output, h.size, fun i hi hn => h.block i hi fun hf => hn (hG i hf)⟩
theorem of_grown {row : Option Nat} (h : w.grownBy w1 row) (hF : ∀ k, row = some k → F k) : Upd F w w1 := ⟨h.os, h.tape, h.output, h.size, fun k hk hn => h.block k hk fun e => hn (hF k e.symm)⟩
theorem of_below (h : Below w.heap.size w w1) : Upd F w w1 := ⟨h.os, h.tape, h.output, h.size, fun k hk _ => h.block k hk⟩
theorem below (h : Upd F w w1) {B : Nat} (hB : B ≤ w.heap.size) (hF : ∀ k, F k → B ≤ k) : Below B w w1 := ⟨h.os, h.tape, h.output, h.size, fun k hk => h.block k (by omega) fun hf => by have := hF k hf; omega⟩
theorem alloc (h : Upd F w w1) (o : Obj) : Upd F w (w1.alloc o) := h.step ⟨rfl, rfl, rfl, by simp, fun k hk _ => by show (w1.heap.push o)[k]? = _; rw [Array.getElem?_push, if_neg (Nat.ne_of_lt hk)]⟩
theorem setCell (h : Upd F w w1) {a : Addr} (ha : F a.block ∨ w.heap.size ≤ a.block) (u : Value) : Upd F w (w1.setCell a u) := by
  refine ⟨h.os, h.tape, h.output, by rw [World.size_setCell]; exact h.size, fun k hk hn => ?_⟩
  rw [Below.heap_setCell _ _ _ _ (fun e => ?_), h.block k hk hn]
  rcases ha with ha | ha
  · exact hn (e ▸ ha)
  · omega
theorem drew (h : Upd F w w1) : Upd F w w1.drew := h.step ⟨rfl, rfl, rfl, Nat.le_refl _, fun _ _ _ => rfl⟩
theorem drewN (h : Upd F w w1) (n : Nat) : Upd F w (w1.drewN n) := h.step ⟨rfl, rfl, rfl, Nat.le_refl _, fun _ _ _ => rfl⟩
end Upd

def eCells (e : HD.Bs × HD.Bs) : List Value := [.string ⟨e.1.toArray⟩, .string ⟨e.2.toArray⟩, .bool false]
def entCells (l : List (HD.Bs × HD.Bs)) : List Value := l.flatMap eCells
theorem entCells_len (l : List (HD.Bs × HD.Bs)) : (entCells l).length = l.length * 3 := by
  induction l with
  | nil => rfl
  | cons e l ih => simp only [entCells, List.flatMap_cons, List.length_append] at ih ⊢; rw [ih]; simp [eCells]; omega
theorem entCells_append (a b : List (HD.Bs × HD.Bs)) : entCells (a ++ b) = entCells a ++ entCells b := by simp [entCells]
theorem entCells_drop (l : List (HD.Bs × HD.Bs)) (k : Nat) : (entCells l).drop (k * 3) = entCells (l.drop k) := by
  induction l generalizing k with
  | nil => simp [entCells]
  | cons e l ih =>
    cases k with
    | zero => simp
    | succ k =>
      have : entCells (e :: l) = eCells e ++ entCells l := rfl
      rw [this, List.drop_succ_cons, ← ih k, show (k + 1) * 3 = 3 + k * 3 by omega, ← List.drop_drop]
      rfl
theorem entCells_at (l : List (HD.Bs × HD.Bs)) (k : Nat) (hk : k < l.length) : (entCells l)[k * 3]? = some (.string ⟨l[k].1.toArray⟩) ∧ (entCells l)[k * 3 + 1]? = some (.string ⟨l[k].2.toArray⟩) ∧ (entCells l)[k * 3 + 2]? = some (.bool false) := by
  have h := entCells_drop l k
  rw [List.drop_eq_getElem_cons hk] at h
  have key : ∀ j, (entCells l)[k * 3 + j]? = (entCells (l[k] :: l.drop (k + 1)))[j]? := fun j => by rw [← h, List.getElem?_drop]
  exact ⟨key 0, key 1, key 2⟩

/-- The table's cells lie at the head of block b; its entries, its maps. -/
structure TabMem (B : Nat) (w : World) (b n : Nat) (f : Nat → Value) (ents : List (HD.Bs × HD.Bs)) (cnt : Nat) (ev : Value) (m1 m2 : Nat) (l1 : List (HD.Bs × Nat)) (l2 : List ((HD.Bs × HD.Bs) × Nat)) : Prop where
  row : Row w b n f
  big : 8 ≤ n
  c0 : f 0 = .bool false
  c1 : f 1 = ev
  c2 : f 2 = .int .u64 (cnt : Nat)
  c3 : f 3 = .map (some m1)
  c4 : f 4 = .map (some m2)
  own : w.ownsRow B 57 3 ev ents.length (entCells ents)
  ne : ev.ownBlock ≠ some b
  mm : m1 ≠ m2
  lo : B ≤ b ∧ B ≤ m1 ∧ B ≤ m2
  map1 : MapMem encS w m1 l1
  map2 : MapMem encP w m2 l2
def tabOwn (b : Nat) (ev : Value) (m1 m2 : Nat) : Nat → Prop := fun k => k = b ∨ ev.ownBlock = some k ∨ k = m1 ∨ k = m2

theorem Row.isCells {w : World} {b n : Nat} {f : Nat → Value} (h : Row w b n f) {es : Array MapEntry} {c : Nat} : w.heap[b]? ≠ some (.map es c) := by
  obtain ⟨cs, t, hb, -⟩ := h
  rw [hb]; intro e; injection e with e; cases e

theorem ownsRow_of_heap {w w' : World} {B e size n : Nat} {v : Value} {xs : List Value} (h : w.ownsRow B e size v n xs) (hk : ∀ g, v.ownBlock = some g → w'.heap[g]? = w.heap[g]?) : w'.ownsRow B e size v n xs := by
  refine ⟨h.1, ?_⟩
  rcases h.2 with h' | ⟨g, cap, cur, e1, hB, hg, r⟩
  · exact Or.inl h'
  · exact Or.inr ⟨g, cap, cur, e1, hB, (hk g (by rw [e1]; rfl)).trans hg, r⟩

namespace TabMem
variable {B : Nat} {w w' : World} {b n : Nat} {f : Nat → Value} {ents : List (HD.Bs × HD.Bs)} {cnt : Nat} {ev : Value} {m1 m2 : Nat} {l1 : List (HD.Bs × Nat)} {l2 : List ((HD.Bs × HD.Bs) × Nat)}
theorem frame (h : TabMem B w b n f ents cnt ev m1 m2 l1 l2) (hk : ∀ k, tabOwn b ev m1 m2 k → w'.heap[k]? = w.heap[k]?) : TabMem B w' b n f ents cnt ev m1 m2 l1 l2 :=
  ⟨h.row.of_heap (hk b (Or.inl rfl)), h.big, h.c0, h.c1, h.c2, h.c3, h.c4, ownsRow_of_heap h.own fun g hg => hk g (Or.inr (Or.inl hg)), h.ne, h.mm, h.lo,
    h.map1.of_heap (hk m1 (Or.inr (Or.inr (Or.inl rfl)))), h.map2.of_heap (hk m2 (Or.inr (Or.inr (Or.inr rfl))))⟩
theorem own_lt (h : TabMem B w b n f ents cnt ev m1 m2 l1 l2) {k : Nat} (hk : tabOwn b ev m1 m2 k) : k < w.heap.size := by
  rcases hk with rfl | hk | rfl | rfl
  · exact h.row.lt
  · exact (h.own.lt k hk).2
  · exact h.map1.lt
  · exact h.map2.lt
theorem own_ge (h : TabMem B w b n f ents cnt ev m1 m2 l1 l2) {k : Nat} (hk : tabOwn b ev m1 m2 k) : B ≤ k := by
  rcases hk with rfl | hk | rfl | rfl
  · exact h.lo.1
  · exact (h.own.lt k hk).1
  · exact h.lo.2.1
  · exact h.lo.2.2
theorem alloc (h : TabMem B w b n f ents cnt ev m1 m2 l1 l2) (o : Obj) : TabMem B (w.alloc o) b n f ents cnt ev m1 m2 l1 l2 :=
  h.frame fun k hk => by show (w.heap.push o)[k]? = _; rw [Array.getElem?_push, if_neg (Nat.ne_of_lt (h.own_lt hk))]
theorem drew (h : TabMem B w b n f ents cnt ev m1 m2 l1 l2) : TabMem B w.drew b n f ents cnt ev m1 m2 l1 l2 := h.frame fun _ _ => rfl
theorem drewN (h : TabMem B w b n f ents cnt ev m1 m2 l1 l2) (q : Nat) : TabMem B (w.drewN q) b n f ents cnt ev m1 m2 l1 l2 := h.frame fun _ _ => rfl
theorem below (h : TabMem B w b n f ents cnt ev m1 m2 l1 l2) (hb : Below w.heap.size w w') : TabMem B w' b n f ents cnt ev m1 m2 l1 l2 := h.frame fun k hk => hb.block k (h.own_lt hk)
theorem b_m1 (h : TabMem B w b n f ents cnt ev m1 m2 l1 l2) : b ≠ m1 := fun e => by
  obtain ⟨_, es, c, hb, -⟩ := h.map1
  exact h.row.isCells (e ▸ hb)
theorem b_m2 (h : TabMem B w b n f ents cnt ev m1 m2 l1 l2) : b ≠ m2 := fun e => by
  obtain ⟨_, es, c, hb, -⟩ := h.map2
  exact h.row.isCells (e ▸ hb)
theorem ev_m1 (h : TabMem B w b n f ents cnt ev m1 m2 l1 l2) : ev.ownBlock ≠ some m1 := fun e => by
  obtain ⟨_, es, c, hb, -⟩ := h.map1
  obtain ⟨c', fz, hg⟩ := Lib.ownsRow_kind h.own m1 e
  rw [hb] at hg; injection hg with hg; cases hg
theorem ev_m2 (h : TabMem B w b n f ents cnt ev m1 m2 l1 l2) : ev.ownBlock ≠ some m2 := fun e => by
  obtain ⟨_, es, c, hb, -⟩ := h.map2
  obtain ⟨c', fz, hg⟩ := Lib.ownsRow_kind h.own m2 e
  rw [hb] at hg; injection hg with hg; cases hg
/-- The first map has changed. -/
theorem put1 {l : List (HD.Bs × Nat)} (h : TabMem B w b n f ents cnt ev m1 m2 l1 l2) (hm : MapMem encS w' m1 l) (hg : w.grownBy w' (some m1)) : TabMem B w' b n f ents cnt ev m1 m2 l l2 :=
  ⟨h.row.of_heap (hg.block b h.row.lt (fun e => h.b_m1 (Option.some.inj e))), h.big, h.c0, h.c1, h.c2, h.c3, h.c4, ownsRow_of_heap h.own fun g hgg => hg.block g (h.own.lt g hgg).2 (fun e => h.ev_m1 (by rw [hgg, e])), h.ne, h.mm, h.lo,
    hm, h.map2.of_heap (hg.block m2 h.map2.lt (fun e => h.mm (Option.some.inj e).symm))⟩
/-- The second map has changed. -/
theorem put2 {l : List ((HD.Bs × HD.Bs) × Nat)} (h : TabMem B w b n f ents cnt ev m1 m2 l1 l2) (hm : MapMem encP w' m2 l) (hg : w.grownBy w' (some m2)) : TabMem B w' b n f ents cnt ev m1 m2 l1 l :=
  ⟨h.row.of_heap (hg.block b h.row.lt (fun e => h.b_m2 (Option.some.inj e))), h.big, h.c0, h.c1, h.c2, h.c3, h.c4, ownsRow_of_heap h.own fun g hgg => hg.block g (h.own.lt g hgg).2 (fun e => h.ev_m2 (by rw [hgg, e])), h.ne, h.mm, h.lo,
    h.map1.of_heap (hg.block m1 h.map1.lt (fun e => h.mm (Option.some.inj e))), hm⟩
end TabMem

theorem zero_u64 : ∀ w, (zeroValue 66).run Tryd.prog w = .ok (.int .u64 0) w := zero_of (by kernel_rfl)
theorem look_name {w : World} {m : Nat} {l : List (HD.Bs × Nat)} (h : MapMem encS w m l) (k : HD.Bs) : (Instr.lookup 67 (.map (some m)) (.string ⟨k.toArray⟩) false).run Tryd.prog w = .ok (.int .u64 ((mget l k).getD 0 : Nat)) w :=
  run_mlook (key_string Tryd.underlying9) Tryd.underlying67 zero_u64 h k
theorem look_pair {w : World} {m : Nat} {l : List ((HD.Bs × HD.Bs) × Nat)} (h : MapMem encP w m l) (k : HD.Bs × HD.Bs) : (Instr.lookup 68 (.map (some m)) (.agg #[.string ⟨k.1.toArray⟩, .string ⟨k.2.toArray⟩]) false).run Tryd.prog w = .ok (.int .u64 ((mget l k).getD 0 : Nat)) w :=
  run_mlook key_pair Tryd.underlying68 zero_u64 h k

/-- The number of entries. -/
theorem len_any (b k c : Nat) (a : Option Addr) (w : World) (h : w.cell? ⟨b, 1, none⟩ = some (.slice a k c)) :
    Calls Tryd.prog 56 #[.pointer (some ⟨b, 0, none⟩)] w fun e w' => e = .returned (.int .i64 (k : Nat)) ∧ w = w' := by
  go_enter Tryd.func56, Tryd.ntmps56
  go_wp2
  go_ret
  exact ⟨rfl, rfl⟩

/-- An entry's size. -/
theorem size_any (n v : HD.Bs) (s : Bool) (w : World) (h : n.length + v.length + 32 < 2 ^ 32) :
    Calls Tryd.prog 57 #[.agg #[.string ⟨n.toArray⟩, .string ⟨v.toArray⟩, .bool s]] w fun e w' => e = .returned (.int .u32 ((n.length + v.length + 32 : Nat) : Int)) ∧ Below w.heap.size w w' := by
  go_enter Tryd.func57, Tryd.ntmps57
  go_wp2
  go_ret
  exact ⟨ret_int (by omega), (Below.refl _ _).alloc (Nat.le_refl _) _⟩
end Go.Proofs.YtjdmaflkafmmpaaDoor
