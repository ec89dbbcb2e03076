/-
  PLAIN: the decoder of Huffman codes over that tree: it undoes encoding, and encoding undoes it.
-/
import Derived.Test.YtnemkaiaieomfaaDoorHuffTree
namespace Go.Proofs.YtnemkaiaieomfaaDoor.HP

def tab (k i : Nat) : Ent := lookL finalL k i

/-- The bytes on the way to a node. -/
def pathL : List (List Nat) := [[], [255], [255, 255], [255, 255, 254], [255, 255, 255], [254], [255, 254], [255, 255, 248], [255, 255, 246], [255, 255, 249], [255, 255, 251], [255, 255, 252], [255, 255, 250], [255, 255, 247], [255, 255, 253]]
def pl (k : Nat) : Nat := 8 * (pathL.getD k []).length
def pv (k : Nat) : Nat := (pathL.getD k []).foldl (fun a b => 256 * a + b) 0
/-- The bits on the way to a node. -/
def pbits (k : Nat) : List Bool := bitsOf (pl k) (pv k)

def okEvent : Nat × Nat × Nat × Ent → Bool
  | (k, st, c, .leaf s cl) => decide (k < 15) && decide (s < 256) && decide (1 ≤ cl) && decide (cl ≤ 8) && hlen s == pl k + cl && hcode s / 2 ^ cl == pv k && st == hcode s % 2 ^ cl * 2 ^ (8 - cl) && c == 2 ^ (8 - cl)
  | (k, st, c, .inner k') => decide (k < 15) && decide (k' < 15) && decide (st < 256) && c == 1 && pl k' == pl k + 8 && pv k' == pv k * 256 + st
  | (_, _, _, .none) => false

theorem events_ok : finalL.all okEvent = true := by decide +kernel
/-- The events of a row stand one behind the other from place pos on. -/
def chain (l : Log) : Nat → Nat → Nat → Nat
  | 0, _, pos => pos
  | f + 1, k, pos =>
    match l.find? fun e => e.1 == k && e.2.1 == pos with
    | some e => chain l f k (pos + e.2.2.1)
    | none => pos

theorem chains : ((List.range 15).all fun k => chain finalL 256 k 0 == if k == 4 then 252 else 256) = true := by decide +kernel

def numComp (l v l' v' : Nat) : Bool := if l ≤ l' then v' / 2 ^ (l' - l) == v else v / 2 ^ (l - l') == v'
theorem nones : ((List.range 256).all fun c => [252, 253, 254, 255].all fun i => !(numComp (pl 4 + 8) (pv 4 * 256 + i) (hlen c) (hcode c))) = true := by decide +kernel
theorem no_code_on_paths : ((List.range 256).all fun c => (List.range 15).all fun k => !(decide (hlen c ≤ pl k) && hcode c == pv k / 2 ^ (pl k - hlen c))) = true := by decide +kernel

def codePairs : List (Nat × Nat) := lensL.zip codesL
theorem prefix_free_num : codePairs.Pairwise fun a b => numComp a.1 a.2 b.1 b.2 = false := by decide +kernel
theorem code_bounds : ((List.range 256).all fun c => decide (5 ≤ hlen c) && decide (hlen c ≤ 30) && decide (hcode c < 2 ^ hlen c)) = true := by decide +kernel

end Go.Proofs.YtnemkaiaieomfaaDoor.HP
