/- What the writer of an Aztec message computes, in lists. Plain. -/
import Derived.WalkKit
namespace Go.Proofs.YtliephokeafllaaGreatDoor

/-- A number as so many bits, the highest first. -/
def putBits (n : Nat) : Nat → List Bool
  | 0 => []
  | k + 1 => (n / 2 ^ k % 2 == 1) :: putBits n k
theorem putBits_len (n : Nat) : ∀ k, (putBits n k).length = k
  | 0 => rfl
  | k + 1 => by simp [putBits, putBits_len n k]

/-- The strings of a mode. -/
def one1 (l : List Nat) : List (List Nat) := l.map fun c => [c]
def upTo (a n : Nat) : List Nat := (List.range n).map (a + ·)
def azTab : Nat → List (List Nat)
  | 0 => [] :: [32] :: (one1 (upTo 65 26) ++ [[], [], [], []])
  | 1 => [] :: [32] :: (one1 (upTo 97 26) ++ [[], [], [], []])
  | 2 => [] :: [32] :: (one1 (upTo 1 13 ++ upTo 27 5 ++ [64, 92, 94, 95, 96, 124, 126, 127]) ++ [[], [], [], []])
  | 3 => [] :: [13] :: [13, 10] :: [46, 32] :: [44, 32] :: [58, 32] :: (one1 (upTo 33 15 ++ [58, 59, 60, 61, 62, 63, 91, 93, 123, 125]) ++ [[]])
  | _ => [] :: [32] :: (one1 (upTo 48 10 ++ [44, 46]) ++ [[], []])

/-- The first place from k on, round and round, with a string. -/
def seek (l : List (List Nat)) : Nat → Nat → Nat
  | 0, k => k
  | f + 1, k => if l.getD k [] = [] then seek l f ((k + 1) % l.length) else k
def sayAt (mode n : Nat) : Nat := seek (azTab mode) (azTab mode).length (n % (azTab mode).length)

/-- A writer: its bits, its text, its mode. -/
structure AzSt where
  bits : List Bool
  text : List Nat
  mode : Nat
def azWidth (mode : Nat) : Nat := if mode = 4 then 4 else 5
def AzSt.put (s : AzSt) (n many : Nat) : AzSt := ⟨s.bits ++ putBits n many, s.text, s.mode⟩
def AzSt.say (s : AzSt) (mode n many : Nat) : AzSt := ⟨s.bits ++ putBits (sayAt mode n) many, s.text ++ (azTab mode).getD (sayAt mode n) [], s.mode⟩
def AzSt.to (s : AzSt) (mode : Nat) : AzSt := ⟨s.bits, s.text, mode⟩
/-- Bytes as they are. -/
def byteBits (l : List Nat) : List Bool := (l.map fun c => putBits (c % 128) 8).flatten
def AzSt.bytes (s : AzSt) (l : List Nat) : AzSt :=
  if l.length = 0 ∨ 2 < s.mode then s else
    ⟨s.bits ++ (putBits 31 5 ++ (if l.length < 32 then putBits l.length 5 else putBits 0 5 ++ putBits (l.length - 31) 11) ++ byteBits l), s.text ++ l.map (· % 128), s.mode⟩

def latchN : Nat → List Nat
  | 0 => [28, 29, 30]
  | 1 => [29, 30]
  | 2 => [28, 29, 30]
  | 3 => [31]
  | _ => [14]
def latchM : Nat → List Nat
  | 0 => [1, 2, 4]
  | 1 => [2, 4]
  | 2 => [1, 0, 3]
  | 3 => [0]
  | _ => [0]

/-- One thing: by the bytes at i and i + 1. -/
def azStep (code : List Nat) (i : Nat) (s : AzSt) : AzSt :=
  let n := code.getD (i + 1) 0
  let k := code.getD i 0 % 16
  if k < 3 then (s.put ((latchN s.mode).getD (n % (latchN s.mode).length) 0) (azWidth s.mode)).to ((latchM s.mode).getD (n % (latchN s.mode).length) 0)
  else if k = 3 ∧ s.mode ≠ 3 then (s.put 0 (azWidth s.mode)).say 3 n 5
  else if k = 4 ∧ (s.mode = 1 ∨ s.mode = 4) then (if s.mode = 1 then s.put 28 5 else s.put 15 4).say 0 n 5
  else if k = 5 then s.bytes ((code.drop (i + 2)).take (n % 70))
  else s.say s.mode n (azWidth s.mode)
def azRun (s : AzSt) (code : List Nat) : Nat → AzSt
  | 0 => s
  | j + 1 => azStep code (2 * j) (azRun s code j)

/-- A plain string, in pieces of at most 62. -/
def plainTo (l : List Nat) : Nat → AzSt
  | 0 => ⟨[], [], 0⟩
  | j + 1 => (plainTo l j).bytes ((l.drop (62 * j)).take 62)
end Go.Proofs.YtliephokeafllaaGreatDoor
