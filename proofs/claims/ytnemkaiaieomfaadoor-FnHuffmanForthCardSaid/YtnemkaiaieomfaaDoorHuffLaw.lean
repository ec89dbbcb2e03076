/-
  PLAIN: decoding Huffman codes undoes encoding, and encoding undoes decoding.
-/
import Derived.Test.YtnemkaiaieomfaaDoorHuffDec
namespace Go.Proofs.YtnemkaiaieomfaaDoor.HP

/-! ### what the tree's entries say -/
theorem lookL_mem {l : Log} {k i : Nat} {e : Ent} (h : lookL l k i = e) (he : e ≠ .none) : ∃ st c, (k, st, c, e) ∈ l ∧ st ≤ i ∧ i < st + c := by
  induction l with
  | nil => exact absurd h.symm he
  | cons x l ih =>
    obtain ⟨k', st, c, e'⟩ := x
    unfold lookL at h
    split at h
    · rename_i hc
      obtain ⟨rfl, h1, h2⟩ := hc
      subst h
      exact ⟨st, c, by simp, h1, h2⟩
    · obtain ⟨st', c', hm, h1, h2⟩ := ih h
      exact ⟨st', c', List.mem_cons_of_mem _ hm, h1, h2⟩

theorem length_pbits (k : Nat) : (pbits k).length = pl k := length_bitsOf _ _
theorem pbits_zero : pbits 0 = [] := rfl
theorem pl_zero : pl 0 = 0 := rfl

theorem pv_lt : ∀ k, k < 15 → pv k < 2 ^ pl k := by decide
theorem pl_pos : ∀ k, k < 15 → pl k < 8 → k = 0 := by decide

theorem event_of {k i : Nat} {e : Ent} (h : tab k i = e) (he : e ≠ .none) : ∃ st c, okEvent (k, st, c, e) = true ∧ st ≤ i ∧ i < st + c := by
  obtain ⟨st, c, hm, h1, h2⟩ := lookL_mem h he
  exact ⟨st, c, List.all_eq_true.1 events_ok _ hm, h1, h2⟩

theorem take_bitsOf {m n : Nat} (c : Nat) : (bitsOf (m + n) c).take m = bitsOf m (c / 2 ^ n) := by
  rw [bitsOf_add]
  exact List.take_left' (length_bitsOf _ _)

theorem leaf_ok {k i s cl : Nat} (h : tab k i = .leaf s cl) : s < 256 ∧ 1 ≤ cl ∧ cl ≤ 8 ∧ k < 15 ∧ hlen s = pl k + cl ∧ pbits k ++ (bitsOf 8 i).take cl = bitsOf (hlen s) (hcode s) := by
  obtain ⟨st, c, ho, h1, h2⟩ := event_of h (by simp)
  simp only [okEvent, Bool.and_eq_true, decide_eq_true_eq, beq_iff_eq] at ho
  obtain ⟨⟨⟨⟨⟨⟨⟨hk, hs⟩, hc1⟩, hc8⟩, hl⟩, hp⟩, hst⟩, hc⟩ := ho
  refine ⟨hs, hc1, hc8, hk, hl, ?_⟩
  have hi : i / 2 ^ (8 - cl) = hcode s % 2 ^ cl := by
    have hpos : 0 < 2 ^ (8 - cl) := Nat.two_pow_pos _
    rw [hst] at h1 h2
    rw [hc] at h2
    apply Nat.div_eq_of_lt_le
    · exact h1
    · rw [Nat.add_mul, Nat.one_mul]; exact h2
  rw [hl, bitsOf_add, hp, ← bitsOf_mod cl (hcode s), ← hi]
  have e8 : cl + (8 - cl) = 8 := by omega
  have := take_bitsOf (m := cl) (n := 8 - cl) i
  rw [e8] at this
  rw [this]
  rfl

theorem inner_ok {k i k' : Nat} (h : tab k i = .inner k') : i < 256 ∧ k' < 15 ∧ k < 15 ∧ pl k' = pl k + 8 ∧ pbits k' = pbits k ++ bitsOf 8 i := by
  obtain ⟨st, c, ho, h1, h2⟩ := event_of h (by simp)
  simp only [okEvent, Bool.and_eq_true, decide_eq_true_eq, beq_iff_eq] at ho
  obtain ⟨⟨⟨⟨⟨hk, hk'⟩, hst⟩, hc⟩, hl⟩, hp⟩ := ho
  have hi : i = st := by omega
  subst hi
  refine ⟨hst, hk', hk, hl, ?_⟩
  rw [pbits, hl, hp, bitsOf_add]
  have e1 : (pv k * 256 + i) / 2 ^ 8 = pv k := by omega
  have e2 : bitsOf 8 (pv k * 256 + i) = bitsOf 8 i := by
    rw [← bitsOf_mod 8 (pv k * 256 + i), ← bitsOf_mod 8 i]; congr 1; omega
  rw [e1, e2]
  rfl

theorem chain_cov {k : Nat} : ∀ (f pos i : Nat), pos ≤ i → i < chain finalL f k pos → tab k i ≠ .none := by
  intro f
  induction f with
  | zero => intro pos i h1 h2; simp [chain] at h2; omega
  | succ f ih =>
    intro pos i h1 h2
    unfold chain at h2
    split at h2
    · rename_i e he
      by_cases hlt : i < pos + e.2.2.1
      · have hm := List.mem_of_find?_eq_some he
        have hp := List.find?_some he
        simp only [Bool.and_eq_true, beq_iff_eq] at hp
        have hev := List.all_eq_true.1 events_ok _ hm
        have hne : e.2.2.2 ≠ .none := by
          intro h0; obtain ⟨a, b, c, d⟩ := e; simp only at h0; subst h0; simp [okEvent] at hev
        have : ∀ l : Log, (∀ x ∈ l, okEvent x = true) → e ∈ l → lookL l k i ≠ .none := by
          intro l
          induction l with
          | nil => intro _ h; cases h
          | cons x l ih2 =>
            intro hall hmem
            obtain ⟨k', st, c, e'⟩ := x
            unfold lookL
            split
            · intro h0; have := hall _ List.mem_cons_self; subst h0; simp [okEvent] at this
            · rename_i hn
              rcases List.mem_cons.1 hmem with rfl | hmem
              · exact absurd ⟨hp.1, by have := hp.2; simp only at this; omega, by have := hp.2; simp only at this hlt; omega⟩ hn
              · exact ih2 (fun x hx => hall x (List.mem_cons_of_mem _ hx)) hmem
        exact this finalL (List.all_eq_true.1 events_ok) hm
      · exact ih _ i (by omega) h2
    · omega

theorem none_ok {k i : Nat} (hk : k < 15) (hi : i < 256) (h : tab k i = .none) : k = 4 ∧ 252 ≤ i := by
  have hc := List.all_eq_true.1 chains k (by simp [hk])
  simp only [beq_iff_eq] at hc
  by_cases h4 : k = 4
  · refine ⟨h4, ?_⟩
    rw [if_pos (by simp [h4])] at hc
    rcases Nat.lt_or_ge i 252 with hlt | hge
    · exact absurd h (chain_cov 256 0 i (Nat.zero_le _) (by rw [hc]; exact hlt))
    · exact hge
  · rw [if_neg (by simp [h4])] at hc
    exact absurd h (chain_cov 256 0 i (Nat.zero_le _) (by rw [hc]; exact hi))

/-! ### prefixes, by numbers -/
theorem bitsOf_inj {n a b : Nat} (ha : a < 2 ^ n) (hb : b < 2 ^ n) (h : bitsOf n a = bitsOf n b) : a = b := by
  have := congrArg ofBits h
  rwa [ofBits_bitsOf, ofBits_bitsOf, Nat.mod_eq_of_lt ha, Nat.mod_eq_of_lt hb] at this

theorem prefix_num {l v l' v' : Nat} (hv : v < 2 ^ l) (hv' : v' < 2 ^ l') (h : bitsOf l v <+: bitsOf l' v') : l ≤ l' ∧ v' / 2 ^ (l' - l) = v := by
  have hl : l ≤ l' := by have := h.length_le; simpa [length_bitsOf] using this
  refine ⟨hl, ?_⟩
  have e : l' = l + (l' - l) := by omega
  have h2 : bitsOf l v = (bitsOf l' v').take l := by
    rw [List.prefix_iff_eq_take, length_bitsOf] at h; exact h
  rw [e, take_bitsOf] at h2
  refine (bitsOf_inj hv ?_ h2).symm
  rw [Nat.div_lt_iff_lt_mul (Nat.two_pow_pos _), ← Nat.pow_add, ← e]
  exact hv'

theorem prefix_or {α : Type} {a b S : List α} (ha : a <+: S) (hb : b <+: S) : a <+: b ∨ b <+: a := by
  rcases Nat.le_total a.length b.length with h | h
  · exact .inl (List.prefix_of_prefix_length_le ha hb h)
  · exact .inr (List.prefix_of_prefix_length_le hb ha h)

theorem numComp_of {l v l' v' : Nat} (hv : v < 2 ^ l) (hv' : v' < 2 ^ l') {S : List Bool} (ha : bitsOf l v <+: S) (hb : bitsOf l' v' <+: S) : numComp l v l' v' = true := by
  unfold numComp
  rcases prefix_or ha hb with h | h
  · obtain ⟨h1, h2⟩ := prefix_num hv hv' h
    rw [if_pos h1]; simpa using h2
  · obtain ⟨h1, h2⟩ := prefix_num hv' hv h
    by_cases h3 : l ≤ l'
    · have : l = l' := by omega
      subst this
      rw [if_pos (Nat.le_refl _)]
      simp at h2 ⊢
      exact h2.symm
    · rw [if_neg h3]; simpa using h2

theorem bounds (c : UInt8) : 5 ≤ hlen c.toNat ∧ hlen c.toNat ≤ 30 ∧ hcode c.toNat < 2 ^ hlen c.toNat := by
  have := List.all_eq_true.1 code_bounds c.toNat (by simpa using c.toNat_lt)
  simpa [and_assoc] using this

theorem getElem_pairs (i : Nat) (h : i < codePairs.length) : codePairs[i] = (hlen i, hcode i) := by
  have hl : i < lensL.length := by simp only [codePairs, List.length_zip] at h; omega
  have hc : i < codesL.length := by simp only [codePairs, List.length_zip] at h; omega
  simp [codePairs, hlen, hcode, hl, hc]

theorem length_pairs : codePairs.length = 256 := by decide +kernel

theorem prefix_free {s t : UInt8} {S : List Bool} (hs : cbits s <+: S) (ht : cbits t <+: S) : s = t := by
  have key : ∀ a b : UInt8, a.toNat < b.toNat → cbits a <+: S → cbits b <+: S → False := by
    intro a b hlt ha hb
    have hp := List.pairwise_iff_getElem.1 prefix_free_num a.toNat b.toNat (by rw [length_pairs]; exact a.toNat_lt) (by rw [length_pairs]; exact b.toNat_lt) hlt
    rw [getElem_pairs, getElem_pairs] at hp
    have := numComp_of (bounds a).2.2 (bounds b).2.2 ha hb
    rw [this] at hp
    cases hp
  rcases Nat.lt_trichotomy s.toNat t.toNat with h | h | h
  · exact (key s t h hs ht).elim
  · exact UInt8.toNat_inj.1 h
  · exact (key t s h ht hs).elim

theorem not_on_path {c : UInt8} {k : Nat} (hk : k < 15) : ¬ cbits c <+: pbits k := by
  intro h
  obtain ⟨h1, h2⟩ := prefix_num (bounds c).2.2 (pv_lt k hk) h
  have := List.all_eq_true.1 (List.all_eq_true.1 no_code_on_paths c.toNat (by simpa using c.toNat_lt)) k (by simp [hk])
  simp [h1, h2] at this

theorem not_none {c : UInt8} {k i : Nat} {S : List Bool} (hk : k < 15) (hi : i < 256) (h1 : pbits k ++ bitsOf 8 i <+: S) (h2 : cbits c <+: S) : tab k i ≠ .none := by
  intro h
  obtain ⟨rfl, h252⟩ := none_ok hk hi h
  have hm : i ∈ [252, 253, 254, 255] := by
    have : i = 252 ∨ i = 253 ∨ i = 254 ∨ i = 255 := by omega
    simpa using this
  have hn := List.all_eq_true.1 (List.all_eq_true.1 nones c.toNat (by simpa using c.toNat_lt)) i hm
  have e : pbits 4 ++ bitsOf 8 i = bitsOf (pl 4 + 8) (pv 4 * 256 + i) := by
    rw [bitsOf_add]
    have e1 : (pv 4 * 256 + i) / 2 ^ 8 = pv 4 := by omega
    have e2 : bitsOf 8 (pv 4 * 256 + i) = bitsOf 8 i := by
      rw [← bitsOf_mod 8 (pv 4 * 256 + i), ← bitsOf_mod 8 i]; congr 1; omega
    rw [e1, e2]; rfl
  rw [e] at h1
  have hb : pv 4 * 256 + i < 2 ^ (pl 4 + 8) := by
    have := pv_lt 4 (by omega)
    rw [Nat.pow_add]; omega
  have := numComp_of hb (bounds c).2.2 h1 h2
  simp [this] at hn

/-- Where a code stands ahead, the entry is its symbol's, or a node further on its way. -/
theorem entry_of {c : UInt8} {k i : Nat} {S : List Bool} (hk : k < 15) (hi : i < 256) (h1 : pbits k ++ bitsOf 8 i <+: S) (h2 : cbits c <+: S) :
    (∃ k', tab k i = .inner k') ∨ (∃ cl, tab k i = .leaf c.toNat cl) := by
  cases h : tab k i with
  | none => exact absurd h (not_none hk hi h1 h2)
  | inner k' => exact .inl ⟨k', rfl⟩
  | leaf s cl =>
    right
    obtain ⟨hs, _, _, _, _, hb⟩ := leaf_ok h
    have hsc : cbits (UInt8.ofNat s) = bitsOf (hlen s) (hcode s) := by
      unfold cbits; rw [UInt8.toNat_ofNat', Nat.mod_eq_of_lt hs]
    have hp : cbits (UInt8.ofNat s) <+: S := by
      rw [hsc, ← hb]
      exact List.IsPrefix.trans (by rw [List.prefix_append_right_inj]; exact List.take_prefix _ _) h1
    have := prefix_free hp h2
    refine ⟨cl, ?_⟩
    rw [← this, UInt8.toNat_ofNat', Nat.mod_eq_of_lt hs]

/-! ### the decoder -/
structure HS where
  k : Nat
  q : List Bool
  out : List UInt8

def feed : Nat → HS → Option HS
  | 0, st => some st
  | f + 1, st =>
    if st.q.length < 8 then some st
    else
      match tab st.k (ofBits (st.q.take 8)) with
      | .none => none
      | .leaf s cl => feed f ⟨0, st.q.drop cl, st.out ++ [UInt8.ofNat s]⟩
      | .inner k' => feed f ⟨k', st.q.drop 8, st.out⟩

def feedAll : List UInt8 → HS → Option HS
  | [], st => some st
  | b :: v, st =>
    match feed (st.q.length + 8) ⟨st.k, st.q ++ bits8 b, st.out⟩ with
    | none => none
    | some st' => feedAll v st'

def fin : Nat → HS → Option HS
  | 0, st => some st
  | f + 1, st =>
    if st.q = [] then some st
    else
      match tab st.k (ofBits (st.q ++ List.replicate (8 - st.q.length) false)) with
      | .none => none
      | .inner _ => some st
      | .leaf s cl => if st.q.length < cl then some st else fin f ⟨0, st.q.drop cl, st.out ++ [UInt8.ofNat s]⟩

/-- The text of codes, if they are one. -/
def hdec (v : List UInt8) : Option (List UInt8) :=
  match feedAll v ⟨0, [], []⟩ with
  | none => none
  | some st =>
    match fin st.q.length st with
    | none => none
    | some st' => if 7 < pl st'.k + st'.q.length then none else if st'.q.all id then some st'.out else none

/-! ### what a run has read -/
def HS.bits (st : HS) : List Bool := tbits st.out ++ pbits st.k ++ st.q

theorem take8 {q : List Bool} (h : ¬ q.length < 8) : bitsOf 8 (ofBits (q.take 8)) = q.take 8 := by
  have hl : (q.take 8).length = 8 := by simp; omega
  have := bitsOf_ofBits (q.take 8)
  rwa [hl] at this

theorem ofBits8_lt {q : List Bool} (h : ¬ q.length < 8) : ofBits (q.take 8) < 256 := by
  have hl : (q.take 8).length = 8 := by simp; omega
  have := ofBits_lt (q.take 8)
  rwa [hl] at this

theorem cbits_ofNat {s : Nat} (hs : s < 256) : cbits (UInt8.ofNat s) = bitsOf (hlen s) (hcode s) := by
  unfold cbits; rw [UInt8.toNat_ofNat', Nat.mod_eq_of_lt hs]

theorem feed_bits : ∀ (f : Nat) (st st' : HS), st.k < 15 → feed f st = some st' → st'.bits = st.bits ∧ st'.k < 15 := by
  intro f
  induction f with
  | zero => intro st st' hk h; simp [feed] at h; subst h; exact ⟨rfl, hk⟩
  | succ f ih =>
    intro st st' hk h
    unfold feed at h
    split at h
    · simp at h; subst h; exact ⟨rfl, hk⟩
    · rename_i hq
      split at h
      · cases h
      · rename_i s cl ht
        obtain ⟨hs, hc1, hc8, _, hl, hb⟩ := leaf_ok ht
        obtain ⟨h1, h2⟩ := ih _ _ (by show (0 : Nat) < 15; decide) h
        refine ⟨h1.trans ?_, h2⟩
        rw [take8 hq] at hb
        simp only [HS.bits, tbits_append, pbits_zero, List.append_nil, List.append_assoc]
        congr 1
        have : tbits [UInt8.ofNat s] = pbits st.k ++ (st.q.take 8).take cl := by
          simp only [tbits, List.flatMap_cons, List.flatMap_nil, List.append_nil]
          rw [cbits_ofNat hs, ← hb]
        rw [this, List.take_take, Nat.min_eq_left hc8, List.append_assoc, List.take_append_drop]
      · rename_i k' ht
        obtain ⟨_, hk', _, _, hb⟩ := inner_ok ht
        obtain ⟨h1, h2⟩ := ih _ _ hk' h
        refine ⟨h1.trans ?_, h2⟩
        rw [take8 hq] at hb
        simp only [HS.bits, List.append_assoc]
        congr 1
        rw [hb, List.append_assoc, List.take_append_drop]

theorem feedAll_bits : ∀ (v : List UInt8) (st st' : HS), st.k < 15 → feedAll v st = some st' → st'.bits = st.bits ++ unpack v ∧ st'.k < 15 := by
  intro v
  induction v with
  | nil => intro st st' hk h; simp [feedAll] at h; subst h; simp [unpack, hk]
  | cons b v ih =>
    intro st st' hk h
    unfold feedAll at h
    split at h
    · cases h
    · rename_i st1 h1
      obtain ⟨e1, k1⟩ := feed_bits _ ⟨st.k, st.q ++ bits8 b, st.out⟩ _ hk h1
      obtain ⟨e2, k2⟩ := ih _ _ k1 h
      refine ⟨?_, k2⟩
      rw [e2, e1, unpack_cons]
      simp [HS.bits]

theorem pad8 {q : List Bool} (h : q.length ≤ 8) : bitsOf 8 (ofBits (q ++ List.replicate (8 - q.length) false)) = q ++ List.replicate (8 - q.length) false := by
  have hl : (q ++ List.replicate (8 - q.length) false).length = 8 := by simp; omega
  have := bitsOf_ofBits (q ++ List.replicate (8 - q.length) false)
  rwa [hl] at this

theorem fin_bits : ∀ (f : Nat) (st st' : HS), st.k < 15 → st.q.length ≤ 8 → fin f st = some st' → st'.bits = st.bits ∧ st'.k < 15 := by
  intro f
  induction f with
  | zero => intro st st' hk _ h; simp [fin] at h; subst h; exact ⟨rfl, hk⟩
  | succ f ih =>
    intro st st' hk hq8 h
    unfold fin at h
    split at h
    · simp at h; subst h; exact ⟨rfl, hk⟩
    · split at h
      · cases h
      · simp at h; subst h; exact ⟨rfl, hk⟩
      · rename_i s cl ht
        split at h
        · simp at h; subst h; exact ⟨rfl, hk⟩
        · rename_i hcl
          obtain ⟨hs, hc1, hc8, _, hl, hb⟩ := leaf_ok ht
          obtain ⟨h1, h2⟩ := ih _ _ (by show (0 : Nat) < 15; decide) (by simp; omega) h
          refine ⟨h1.trans ?_, h2⟩
          rw [pad8 hq8, List.take_append_of_le_length (by omega)] at hb
          simp only [HS.bits, tbits_append, pbits_zero, List.append_nil, List.append_assoc]
          congr 1
          have : tbits [UInt8.ofNat s] = pbits st.k ++ st.q.take cl := by
            simp only [tbits, List.flatMap_cons, List.flatMap_nil, List.append_nil]
            rw [cbits_ofNat hs, ← hb]
          rw [this, List.append_assoc, List.take_append_drop]

/-! ### feed comes to fewer than eight bits -/
theorem feed_short : ∀ (f : Nat) (st st' : HS), st.q.length ≤ f + 7 → feed f st = some st' → st'.q.length < 8 := by
  intro f
  induction f with
  | zero => intro st st' hf h; simp [feed] at h; subst h; omega
  | succ f ih =>
    intro st st' hf h
    unfold feed at h
    split at h
    · simp at h; subst h; assumption
    · split at h
      · cases h
      · rename_i s cl ht
        obtain ⟨_, hc1, _, _, _, _⟩ := leaf_ok ht
        exact ih _ _ (by simp; omega) h
      · exact ih _ _ (by simp; omega) h

theorem feedAll_short : ∀ (v : List UInt8) (st st' : HS), st.q.length < 8 → feedAll v st = some st' → st'.q.length < 8 := by
  intro v
  induction v with
  | nil => intro st st' hq h; simp [feedAll] at h; subst h; exact hq
  | cons b v ih =>
    intro st st' hq h
    unfold feedAll at h
    split at h
    · cases h
    · rename_i st1 h1
      exact ih _ _ (feed_short _ _ _ (by simp [length_bits8]) h1) h

/-- ENCODING UNDOES DECODING: codes that are not refused are their text's. -/
theorem henc_hdec {v t : List UInt8} (h : hdec v = some t) : henc t = v := by
  unfold hdec at h
  split at h
  · cases h
  · rename_i st h1
    split at h
    · cases h
    · rename_i st' h2
      split at h
      · cases h
      · rename_i h7
        split at h
        · rename_i hall
          simp at h
          subst h
          obtain ⟨e1, k1⟩ := feedAll_bits _ _ _ (by show (0 : Nat) < 15; decide) h1
          have s1 := feedAll_short _ _ _ (by show (0 : Nat) < 8; decide) h1
          obtain ⟨e2, k2⟩ := fin_bits _ _ _ k1 (by omega) h2
          have hk : st'.k = 0 := pl_pos _ k2 (by omega)
          have hb : tbits st'.out ++ st'.q = unpack v := by
            have := e2.trans e1
            simpa [HS.bits, hk, pbits_zero, tbits] using this
          have hq : st'.q = List.replicate st'.q.length true := by
            apply List.eq_replicate_iff.2
            exact ⟨rfl, fun b hb => by simpa using List.all_eq_true.1 hall b hb⟩
          have hlen : st'.q.length = padOf (tbits st'.out).length := by
            have := congrArg List.length hb
            rw [List.length_append, length_unpack] at this
            unfold padOf
            omega
          rw [henc, ← hlen, ← hq, hb, pack_unpack]
        · cases h

/-! ### decoding undoes encoding -/
/-- What is ahead: the codes of a text and then fewer than eight ones. -/
structure Ahead (st : HS) (rest : List Bool) (t : List UInt8) (p : Nat) : Prop where
  p8 : p < 8
  k15 : st.k < 15
  eq : pbits st.k ++ st.q ++ rest = tbits t ++ List.replicate p true

theorem Ahead.some_code {st : HS} {rest : List Bool} {p : Nat} (h : Ahead st rest [] p) : st.k = 0 ∧ st.q.length ≤ p ∧ st.q = List.replicate st.q.length true := by
  have hl := congrArg List.length h.eq
  simp [tbits, length_pbits] at hl
  have hk : st.k = 0 := pl_pos _ h.k15 (by have := h.p8; omega)
  refine ⟨hk, by omega, ?_⟩
  have he := h.eq
  simp only [hk, pbits_zero, List.nil_append, tbits, List.flatMap_nil] at he
  have : st.q <+: List.replicate p true := ⟨rest, he⟩
  apply List.eq_replicate_iff.2
  refine ⟨rfl, fun b hb => ?_⟩
  have := this.subset hb
  exact (List.mem_replicate.1 this).2

theorem feed_code : ∀ (f : Nat) (st : HS) (rest : List Bool) (t : List UInt8) (p : Nat), Ahead st rest t p →
    ∃ st' t', feed f st = some st' ∧ Ahead st' rest t' p ∧ st'.out ++ t' = st.out ++ t := by
  intro f
  induction f with
  | zero => intro st rest t p h; exact ⟨st, t, rfl, h, rfl⟩
  | succ f ih =>
    intro st rest t p h
    unfold feed
    by_cases hq : st.q.length < 8
    · rw [if_pos hq]; exact ⟨st, t, rfl, h, rfl⟩
    · rw [if_neg hq]
      cases t with
      | nil => have := h.some_code; have := h.p8; omega
      | cons c t =>
        have hS1 : pbits st.k ++ bitsOf 8 (ofBits (st.q.take 8)) <+: tbits (c :: t) ++ List.replicate p true := by
          rw [← h.eq, take8 hq]
          exact ⟨st.q.drop 8 ++ rest, by rw [List.append_assoc, ← List.append_assoc (st.q.take 8), List.take_append_drop, List.append_assoc]⟩
        have hS2 : cbits c <+: tbits (c :: t) ++ List.replicate p true := ⟨tbits t ++ List.replicate p true, by rw [tbits_cons, List.append_assoc]⟩
        rcases entry_of h.k15 (ofBits8_lt hq) hS1 hS2 with ⟨k', ht⟩ | ⟨cl, ht⟩
        · rw [ht]
          obtain ⟨_, hk', _, _, hb⟩ := inner_ok ht
          obtain ⟨st', t', h1, h2, h3⟩ := ih ⟨k', st.q.drop 8, st.out⟩ rest (c :: t) p ⟨h.p8, hk', by
            show pbits k' ++ st.q.drop 8 ++ rest = _
            rw [hb, take8 hq, ← h.eq, List.append_assoc (pbits st.k), List.take_append_drop]⟩
          exact ⟨st', t', h1, h2, h3⟩
        · rw [ht]
          obtain ⟨hs, hc1, hc8, _, hl, hb⟩ := leaf_ok ht
          rw [take8 hq] at hb
          have hcc : bitsOf (hlen c.toNat) (hcode c.toNat) = cbits c := rfl
          obtain ⟨st', t', h1, h2, h3⟩ := ih ⟨0, st.q.drop cl, st.out ++ [UInt8.ofNat c.toNat]⟩ rest t p ⟨h.p8, by show (0 : Nat) < 15; decide, by
            show pbits 0 ++ st.q.drop cl ++ rest = _
            have he := h.eq
            rw [tbits_cons, ← hcc, ← hb, List.take_take, Nat.min_eq_left hc8] at he
            rw [pbits_zero, List.nil_append]
            have : pbits st.k ++ st.q ++ rest = pbits st.k ++ st.q.take cl ++ (st.q.drop cl ++ rest) := by
              rw [List.append_assoc, List.append_assoc, ← List.append_assoc (st.q.take cl), List.take_append_drop]
            rw [this, List.append_assoc _ (tbits t)] at he
            exact List.append_cancel_left he⟩
          refine ⟨st', t', h1, h2, ?_⟩
          rw [h3]
          simp

theorem feedAll_code : ∀ (v : List UInt8) (st : HS) (t : List UInt8) (p : Nat), Ahead st (unpack v) t p →
    ∃ st' t', feedAll v st = some st' ∧ Ahead st' [] t' p ∧ st'.out ++ t' = st.out ++ t := by
  intro v
  induction v with
  | nil => intro st t p h; exact ⟨st, t, rfl, h, rfl⟩
  | cons b v ih =>
    intro st t p h
    unfold feedAll
    obtain ⟨st1, t1, h1, h2, h3⟩ := feed_code (st.q.length + 8) ⟨st.k, st.q ++ bits8 b, st.out⟩ (unpack v) t p ⟨h.p8, h.k15, by
      show pbits st.k ++ (st.q ++ bits8 b) ++ unpack v = _
      rw [← h.eq, unpack_cons]; simp [List.append_assoc]⟩
    rw [h1]
    obtain ⟨st', t', h4, h5, h6⟩ := ih st1 t1 p h2
    exact ⟨st', t', h4, h5, h6.trans h3⟩

def padStops : Nat → Bool
  | m => match tab 0 (ofBits (List.replicate m true ++ List.replicate (8 - m) false)) with
    | .none => false
    | .inner _ => true
    | .leaf _ cl => decide (m < cl)
theorem padStops_all : ((List.range 8).all fun m => m == 0 || padStops m) = true := by decide +kernel

theorem fin_code : ∀ (f : Nat) (st : HS) (t : List UInt8) (p : Nat), st.q.length ≤ f → st.q.length < 8 → Ahead st [] t p →
    ∃ st', fin f st = some st' ∧ st'.k = 0 ∧ st'.q.length < 8 ∧ st'.q = List.replicate st'.q.length true ∧ st'.out = st.out ++ t := by
  intro f
  induction f with
  | zero =>
    intro st t p hf _ h
    have hq : st.q = [] := List.eq_nil_of_length_eq_zero (by omega)
    cases t with
    | nil => obtain ⟨hk, _, hr⟩ := h.some_code; exact ⟨st, rfl, hk, by simp [hq], hr, by simp⟩
    | cons c t =>
      have he := h.eq
      rw [hq, tbits_cons] at he
      exact absurd ⟨tbits t ++ List.replicate p true, by rw [← List.append_assoc, ← he]; simp⟩ (not_on_path (c := c) h.k15)
  | succ f ih =>
    intro st t p hf hq8 h
    unfold fin
    by_cases hq : st.q = []
    · rw [if_pos hq]
      cases t with
      | nil => obtain ⟨hk, _, hr⟩ := h.some_code; exact ⟨st, rfl, hk, by simp [hq], hr, by simp⟩
      | cons c t =>
        have he := h.eq
        rw [hq, tbits_cons] at he
        exact absurd ⟨tbits t ++ List.replicate p true, by rw [← List.append_assoc, ← he]; simp⟩ (not_on_path (c := c) h.k15)
    · rw [if_neg hq]
      cases t with
      | nil =>
        obtain ⟨hk, hlp, hr⟩ := h.some_code
        have hstop := List.all_eq_true.1 padStops_all st.q.length (by simp; omega)
        have hne : st.q.length ≠ 0 := fun h0 => hq (List.eq_nil_of_length_eq_zero h0)
        simp only [beq_iff_eq, hne, Bool.or_eq_true, false_or, padStops] at hstop
        rw [← hr] at hstop
        rw [hk]
        cases ht : tab 0 (ofBits (st.q ++ List.replicate (8 - st.q.length) false)) with
        | none => simp [ht] at hstop
        | inner k' => exact ⟨st, rfl, hk, hq8, hr, by simp⟩
        | leaf s cl =>
          simp [ht] at hstop
          simp only [if_pos hstop]
          exact ⟨st, rfl, hk, hq8, hr, by simp⟩
      | cons c t =>
        have he := h.eq
        rw [List.append_nil] at he
        have hS : cbits c <+: pbits st.k ++ st.q := ⟨tbits t ++ List.replicate p true, by rw [he, tbits_cons, List.append_assoc]⟩
        have hS1 : pbits st.k ++ bitsOf 8 (ofBits (st.q ++ List.replicate (8 - st.q.length) false)) <+: pbits st.k ++ (st.q ++ List.replicate (8 - st.q.length) false) := by
          rw [pad8 (by omega)]; exact List.prefix_refl _
        have hS2 : cbits c <+: pbits st.k ++ (st.q ++ List.replicate (8 - st.q.length) false) := hS.trans ⟨List.replicate (8 - st.q.length) false, by simp [List.append_assoc]⟩
        have hlt : ofBits (st.q ++ List.replicate (8 - st.q.length) false) < 256 := by
          have := ofBits_lt (st.q ++ List.replicate (8 - st.q.length) false)
          have hl : (st.q ++ List.replicate (8 - st.q.length) false).length = 8 := by simp; omega
          rwa [hl] at this
        rcases entry_of h.k15 hlt hS1 hS2 with ⟨k', ht⟩ | ⟨cl, ht⟩
        · exfalso
          obtain ⟨_, hk', _, _, hb⟩ := inner_ok ht
          rw [pad8 (by omega)] at hb
          exact not_on_path (c := c) hk' (by rw [hb]; exact hS2)
        · rw [ht]
          obtain ⟨hs, hc1, hc8, _, hl, hb⟩ := leaf_ok ht
          have hle : cl ≤ st.q.length := by
            have := hS.length_le
            simp only [List.length_append, length_pbits] at this
            have h2 : (cbits c).length = hlen c.toNat := length_bitsOf _ _
            omega
          simp only [if_neg (show ¬ st.q.length < cl by omega)]
          rw [pad8 (by omega), List.take_append_of_le_length hle] at hb
          have hcc : bitsOf (hlen c.toNat) (hcode c.toNat) = cbits c := rfl
          obtain ⟨st', h1, h2, h3, h4, h5⟩ := ih ⟨0, st.q.drop cl, st.out ++ [UInt8.ofNat c.toNat]⟩ t p (by simp; omega) (by simp; omega) ⟨h.p8, by show (0 : Nat) < 15; decide, by
            show pbits 0 ++ st.q.drop cl ++ [] = _
            rw [tbits_cons, ← hcc, ← hb] at he
            rw [pbits_zero, List.nil_append, List.append_nil]
            have : pbits st.k ++ st.q = pbits st.k ++ st.q.take cl ++ st.q.drop cl := by simp [List.append_assoc]
            rw [this, List.append_assoc _ (tbits t)] at he
            exact List.append_cancel_left he⟩
          refine ⟨st', h1, h2, h3, h4, ?_⟩
          rw [h5]
          simp

/-- DECODING UNDOES ENCODING: a text comes back from its codes. -/
theorem hdec_henc (t : List UInt8) : hdec (henc t) = some t := by
  have hp : padOf (tbits t).length < 8 := by unfold padOf; omega
  obtain ⟨st, t', h1, h2, h3⟩ := feedAll_code (henc t) ⟨0, [], []⟩ t _ ⟨hp, by show (0 : Nat) < 15; decide, by
    show pbits 0 ++ [] ++ unpack (henc t) = _
    rw [unpack_henc]; rfl⟩
  have hs := feedAll_short _ _ _ (by show (0 : Nat) < 8; decide) h1
  obtain ⟨st', h4, h5, h6, h7, h8⟩ := fin_code st.q.length st t' _ (Nat.le_refl _) hs h2
  unfold hdec
  rw [h1]
  simp only [h4]
  rw [if_neg (by rw [h5, pl_zero]; omega), if_pos, h8, h3]
  · simp
  · rw [h7]; simp

end Go.Proofs.YtnemkaiaieomfaaDoor.HP
