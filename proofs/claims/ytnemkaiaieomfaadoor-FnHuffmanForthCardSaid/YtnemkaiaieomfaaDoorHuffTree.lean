/-
  PLAIN: the tree of the Huffman code as a decoder builds it, byte by byte, and what it answers.
-/
import Derived.Test.YtnemkaiaieomfaaDoorHuff
namespace Go.Proofs.YtnemkaiaieomfaaDoor.HP

/-- What a place of a node's row holds: nothing, another node, a symbol with the number of bits that its code has in this byte. -/
inductive Ent where
  | none
  | inner (k : Nat)
  | leaf (s cl : Nat)
  deriving DecidableEq, Repr

/-- What was stored: in row k, from place i on, so many places. The newest first. -/
abbrev Log := List (Nat × Nat × Nat × Ent)

def lookL : Log → Nat → Nat → Ent
  | [], _, _ => .none
  | (k', s, c, e) :: l, k, i => if k' = k ∧ s ≤ i ∧ i < s + c then e else lookL l k i

structure TB where
  n : Nat
  log : Log
  deriving DecidableEq

/-- The way down to a code's last byte; none where it would come upon a symbol. -/
def desc : Nat → TB → Nat → Nat → Nat → Option (TB × Nat × Nat)
  | 0, t, cur, _, cl => if cl ≤ 8 then some (t, cur, cl) else none
  | f + 1, t, cur, code, cl =>
    if cl ≤ 8 then some (t, cur, cl)
    else
      match lookL t.log cur (code / 2 ^ (cl - 8) % 256) with
      | .inner k => if k < t.n then desc f t k code (cl - 8) else none
      | .leaf _ _ => none
      | .none => desc f ⟨t.n + 1, (cur, code / 2 ^ (cl - 8) % 256, 1, .inner t.n) :: t.log⟩ t.n code (cl - 8)

def startOf (code cl : Nat) : Nat := code * 2 ^ (8 - cl) % 256
def addLeaf (r : TB × Nat × Nat) (s code : Nat) : Option TB :=
  if 1 ≤ r.2.2 ∧ startOf code r.2.2 + 2 ^ (8 - r.2.2) ≤ 256 then some ⟨r.1.n, (r.2.1, startOf code r.2.2, 2 ^ (8 - r.2.2), .leaf s r.2.2) :: r.1.log⟩ else none
def addSym (t : TB) (s : Nat) : Option TB :=
  match desc 4 t 0 (hcode s) (hlen s) with
  | some r => addLeaf r s (hcode s)
  | none => none
def tbAt : Nat → Option TB
  | 0 => some ⟨1, []⟩
  | s + 1 =>
    match tbAt s with
    | some t => addSym t s
    | none => none

def finalL : Log := [(10, 128, 64, .leaf 255 2), (3, 0, 32, .leaf 254 3), (14, 224, 32, .leaf 253 3), (14, 192, 32, .leaf 252 3), (14, 160, 32, .leaf 251 3), (14, 128, 32, .leaf 250 3), (4, 224, 16, .leaf 249 4), (14, 96, 32, .leaf 248 3), (14, 64, 32, .leaf 247 3), (14, 32, 32, .leaf 246 3), (14, 0, 32, .leaf 245 3), (2, 253, 1, .inner 14), (11, 224, 32, .leaf 244 3), (10, 64, 64, .leaf 243 2), (10, 0, 64, .leaf 242 2), (11, 192, 32, .leaf 241 3), (12, 192, 64, .leaf 240 2), (2, 232, 2, .leaf 239 7), (12, 128, 64, .leaf 238 2), (2, 245, 1, .leaf 237 8), (2, 244, 1, .leaf 236 8), (13, 128, 128, .leaf 235 1), (13, 0, 128, .leaf 234 1), (2, 247, 1, .inner 13), (2, 172, 4, .leaf 233 6), (2, 168, 4, .leaf 232 6), (2, 230, 2, .leaf 231 7), (2, 64, 8, .leaf 230 5), (2, 56, 8, .leaf 229 5), (2, 164, 4, .leaf 228 6), (2, 48, 8, .leaf 227 5), (6, 208, 16, .leaf 226 4), (2, 243, 1, .leaf 225 8), (6, 192, 16, .leaf 224 4), (11, 160, 32, .leaf 223 3), (11, 128, 32, .leaf 222 3), (11, 96, 32, .leaf 221 3), (4, 208, 16, .leaf 220 4), (12, 64, 64, .leaf 219 2), (12, 0, 64, .leaf 218 2), (2, 250, 1, .inner 12), (2, 40, 8, .leaf 217 5), (2, 32, 8, .leaf 216 5), (2, 242, 1, .leaf 215 8), (11, 64, 32, .leaf 214 3), (9, 192, 64, .leaf 213 2), (11, 32, 32, .leaf 212 3), (11, 0, 32, .leaf 211 3), (2, 252, 1, .inner 11), (9, 128, 64, .leaf 210 2), (2, 24, 8, .leaf 209 5), (6, 64, 32, .leaf 208 3), (8, 128, 128, .leaf 207 1), (2, 241, 1, .leaf 206 8), (9, 64, 64, .leaf 205 2), (10, 224, 32, .leaf 204 3), (10, 192, 32, .leaf 203 3), (2, 251, 1, .inner 10), (9, 0, 64, .leaf 202 2), (2, 249, 1, .inner 9), (7, 192, 64, .leaf 201 2), (7, 128, 64, .leaf 200 2), (8, 0, 128, .leaf 199 1), (2, 246, 1, .inner 8), (2, 160, 4, .leaf 198 6), (2, 228, 2, .leaf 197 7), (2, 156, 4, .leaf 196 6), (6, 32, 32, .leaf 195 3), (6, 176, 16, .leaf 194 4), (7, 64, 64, .leaf 193 2), (7, 0, 64, .leaf 192 2), (2, 248, 1, .inner 7), (2, 226, 2, .leaf 191 7), (2, 152, 4, .leaf 190 6), (2, 148, 4, .leaf 189 6), (2, 224, 2, .leaf 188 7), (2, 144, 4, .leaf 187 6), (2, 140, 4, .leaf 186 6), (2, 136, 4, .leaf 185 6), (6, 160, 16, .leaf 184 4), (2, 222, 2, .leaf 183 7), (2, 220, 2, .leaf 182 7), (2, 132, 4, .leaf 181 6), (2, 218, 2, .leaf 180 7), (2, 16, 8, .leaf 179 5), (2, 128, 4, .leaf 178 6), (2, 8, 8, .leaf 177 5), (2, 0, 8, .leaf 176 5), (2, 216, 2, .leaf 175 7), (2, 214, 2, .leaf 174 7), (2, 124, 4, .leaf 173 6), (6, 248, 8, .leaf 172 5), (2, 240, 1, .leaf 171 8), (2, 120, 4, .leaf 170 6), (2, 116, 4, .leaf 169 6), (2, 212, 2, .leaf 168 7), (6, 240, 8, .leaf 167 5), (2, 210, 2, .leaf 166 7), (2, 208, 2, .leaf 165 7), (2, 112, 4, .leaf 164 6), (2, 108, 4, .leaf 163 6), (6, 144, 16, .leaf 162 4), (6, 232, 8, .leaf 161 5), (2, 104, 4, .leaf 160 6), (2, 239, 1, .leaf 159 8), (2, 206, 2, .leaf 158 7), (2, 204, 2, .leaf 157 7), (2, 100, 4, .leaf 156 6), (2, 202, 2, .leaf 155 7), (2, 96, 4, .leaf 154 6), (6, 224, 8, .leaf 153 5), (2, 200, 2, .leaf 152 7), (2, 198, 2, .leaf 151 7), (2, 196, 2, .leaf 150 7), (2, 194, 2, .leaf 149 7), (2, 238, 1, .leaf 148 8), (2, 192, 2, .leaf 147 7), (2, 92, 4, .leaf 146 6), (2, 237, 1, .leaf 145 8), (2, 236, 1, .leaf 144 8), (2, 190, 2, .leaf 143 7), (2, 235, 1, .leaf 142 8), (2, 188, 2, .leaf 141 7), (2, 186, 2, .leaf 140 7), (2, 184, 2, .leaf 139 7), (2, 182, 2, .leaf 138 7), (2, 180, 2, .leaf 137 7), (2, 88, 4, .leaf 136 6), (2, 178, 2, .leaf 135 7), (2, 84, 4, .leaf 134 6), (2, 80, 4, .leaf 133 6), (2, 76, 4, .leaf 132 6), (6, 128, 16, .leaf 131 4), (6, 112, 16, .leaf 130 4), (2, 72, 4, .leaf 129 6), (6, 96, 16, .leaf 128 4), (4, 192, 16, .leaf 127 4), (1, 232, 8, .leaf 126 5), (1, 244, 4, .leaf 125 6), (1, 128, 32, .leaf 124 3), (1, 252, 2, .leaf 123 7), (0, 246, 2, .leaf 122 7), (0, 244, 2, .leaf 121 7), (0, 242, 2, .leaf 120 7), (0, 240, 2, .leaf 119 7), (0, 238, 2, .leaf 118 7), (0, 180, 4, .leaf 117 6), (0, 72, 8, .leaf 116 5), (0, 64, 8, .leaf 115 5), (0, 176, 4, .leaf 114 6), (0, 236, 2, .leaf 113 7), (0, 172, 4, .leaf 112 6), (0, 56, 8, .leaf 111 5), (0, 168, 4, .leaf 110 6), (0, 164, 4, .leaf 109 6), (0, 160, 4, .leaf 108 6), (0, 234, 2, .leaf 107 7), (0, 232, 2, .leaf 106 7), (0, 48, 8, .leaf 105 5), (0, 156, 4, .leaf 104 6), (0, 152, 4, .leaf 103 6), (0, 148, 4, .leaf 102 6), (0, 40, 8, .leaf 101 5), (0, 144, 4, .leaf 100 6), (0, 32, 8, .leaf 99 5), (0, 140, 4, .leaf 98 6), (0, 24, 8, .leaf 97 5), (1, 250, 2, .leaf 96 7), (0, 136, 4, .leaf 95 6), (1, 240, 4, .leaf 94 6), (1, 224, 8, .leaf 93 5), (6, 0, 32, .leaf 92 3), (1, 254, 1, .inner 6), (1, 216, 8, .leaf 91 5), (0, 253, 1, .leaf 90 8), (0, 230, 2, .leaf 89 7), (0, 252, 1, .leaf 88 8), (0, 228, 2, .leaf 87 7), (0, 226, 2, .leaf 86 7), (0, 224, 2, .leaf 85 7), (0, 222, 2, .leaf 84 7), (0, 220, 2, .leaf 83 7), (0, 218, 2, .leaf 82 7), (0, 216, 2, .leaf 81 7), (0, 214, 2, .leaf 80 7), (0, 212, 2, .leaf 79 7), (0, 210, 2, .leaf 78 7), (0, 208, 2, .leaf 77 7), (0, 206, 2, .leaf 76 7), (0, 204, 2, .leaf 75 7), (0, 202, 2, .leaf 74 7), (0, 200, 2, .leaf 73 7), (0, 198, 2, .leaf 72 7), (0, 196, 2, .leaf 71 7), (0, 194, 2, .leaf 70 7), (0, 192, 2, .leaf 69 7), (0, 190, 2, .leaf 68 7), (0, 188, 2, .leaf 67 7), (0, 186, 2, .leaf 66 7), (0, 132, 4, .leaf 65 6), (1, 208, 8, .leaf 64 5), (1, 0, 64, .leaf 63 2), (1, 176, 16, .leaf 62 4), (0, 128, 4, .leaf 61 6), (1, 248, 2, .leaf 60 7), (0, 251, 1, .leaf 59 8), (0, 184, 2, .leaf 58 7), (0, 124, 4, .leaf 57 6), (0, 120, 4, .leaf 56 6), (0, 116, 4, .leaf 55 6), (0, 112, 4, .leaf 54 6), (0, 108, 4, .leaf 53 6), (0, 104, 4, .leaf 52 6), (0, 100, 4, .leaf 51 6), (0, 16, 8, .leaf 50 5), (0, 8, 8, .leaf 49 5), (0, 0, 8, .leaf 48 5), (0, 96, 4, .leaf 47 6), (0, 92, 4, .leaf 46 6), (0, 88, 4, .leaf 45 6), (0, 250, 1, .leaf 44 8), (1, 96, 32, .leaf 43 3), (0, 249, 1, .leaf 42 8), (5, 192, 64, .leaf 41 2), (5, 128, 64, .leaf 40 2), (1, 64, 32, .leaf 39 3), (0, 248, 1, .leaf 38 8), (0, 84, 4, .leaf 37 6), (1, 200, 8, .leaf 36 5), (1, 160, 16, .leaf 35 4), (5, 64, 64, .leaf 34 2), (5, 0, 64, .leaf 33 2), (0, 254, 1, .inner 5), (0, 80, 4, .leaf 32 6), (4, 176, 16, .leaf 31 4), (4, 160, 16, .leaf 30 4), (4, 144, 16, .leaf 29 4), (4, 128, 16, .leaf 28 4), (4, 112, 16, .leaf 27 4), (4, 96, 16, .leaf 26 4), (4, 80, 16, .leaf 25 4), (4, 64, 16, .leaf 24 4), (4, 48, 16, .leaf 23 4), (4, 248, 4, .leaf 22 6), (4, 32, 16, .leaf 21 4), (4, 16, 16, .leaf 20 4), (4, 0, 16, .leaf 19 4), (3, 240, 16, .leaf 18 4), (3, 224, 16, .leaf 17 4), (3, 208, 16, .leaf 16 4), (3, 192, 16, .leaf 15 4), (3, 176, 16, .leaf 14 4), (4, 244, 4, .leaf 13 6), (3, 160, 16, .leaf 12 4), (3, 144, 16, .leaf 11 4), (4, 240, 4, .leaf 10 6), (2, 255, 1, .inner 4), (2, 234, 1, .leaf 9 8), (3, 128, 16, .leaf 8 4), (3, 112, 16, .leaf 7 4), (3, 96, 16, .leaf 6 4), (3, 80, 16, .leaf 5 4), (3, 64, 16, .leaf 4 4), (3, 48, 16, .leaf 3 4), (3, 32, 16, .leaf 2 4), (2, 254, 1, .inner 3), (2, 176, 2, .leaf 1 7), (1, 255, 1, .inner 2), (1, 192, 8, .leaf 0 5), (0, 255, 1, .inner 1)]

theorem finalIs : tbAt 256 = some ⟨15, finalL⟩ := by decide +kernel

theorem tbAt_some {s : Nat} (h : s ≤ 256) : ∃ t, tbAt s = some t := by
  have key : ∀ d, d ≤ 256 → ∃ t, tbAt (256 - d) = some t := by
    intro d
    induction d with
    | zero => intro _; exact ⟨_, finalIs⟩
    | succ d ih =>
      intro hd
      obtain ⟨t, ht⟩ := ih (by omega)
      have e : 256 - d = (256 - (d + 1)) + 1 := by omega
      rw [e, tbAt] at ht
      cases hx : tbAt (256 - (d + 1)) with
      | some t' => exact ⟨t', rfl⟩
      | none => rw [hx] at ht; cases ht
  have := key (256 - s) (by omega)
  rwa [show 256 - (256 - s) = s by omega] at this
end Go.Proofs.YtnemkaiaieomfaaDoor.HP
