/- Data Matrix: the sizes of the reference and the table of the code. Plain. -/
namespace Go.Proofs.YtfmjkflihnfneaaDoor
set_option linter.unusedVariables false
/-- Rows, columns, rows and columns of a region, words of data and of error correction, blocks. -/
def sz : List (List Nat) := [
  [10, 10, 8, 8, 3, 5, 1], [12, 12, 10, 10, 5, 7, 1], [8, 18, 6, 16, 5, 7, 1], [14, 14, 12, 12, 8, 10, 1], [8, 32, 6, 14, 10, 11, 1], [16, 16, 14, 14, 12, 12, 1],
  [12, 26, 10, 24, 16, 14, 1], [18, 18, 16, 16, 18, 14, 1], [20, 20, 18, 18, 22, 18, 1], [12, 36, 10, 16, 22, 18, 1], [22, 22, 20, 20, 30, 20, 1], [16, 36, 14, 16, 32, 24, 1],
  [24, 24, 22, 22, 36, 24, 1], [26, 26, 24, 24, 44, 28, 1], [16, 48, 14, 22, 49, 28, 1], [32, 32, 14, 14, 62, 36, 1], [36, 36, 16, 16, 86, 42, 1], [40, 40, 18, 18, 114, 48, 1],
  [44, 44, 20, 20, 144, 56, 1], [48, 48, 22, 22, 174, 68, 1], [52, 52, 24, 24, 204, 84, 2], [64, 64, 14, 14, 280, 112, 2], [72, 72, 16, 16, 368, 144, 4], [80, 80, 18, 18, 456, 192, 4],
  [88, 88, 20, 20, 576, 224, 4], [96, 96, 22, 22, 696, 272, 4], [104, 104, 24, 24, 816, 336, 6], [120, 120, 18, 18, 1050, 408, 6], [132, 132, 20, 20, 1304, 496, 8], [144, 144, 22, 22, 1558, 620, 10]]
def szf (k f : Nat) : Nat := (sz.getD k []).getD f 0
def szFlat : List Nat := sz.flatten
theorem sz_at (k f : Nat) (hk : k < 30) (hf : f < 7) : szFlat[k * 7 + f]? = some (szf k f) := by
  have h : ((List.range 30).all fun k => (List.range 7).all fun f => szFlat[k * 7 + f]? == some (szf k f)) = true := by decide +kernel
  have h := List.all_eq_true.1 (List.all_eq_true.1 h k (List.mem_range.2 hk)) f (List.mem_range.2 hf)
  simpa using h
theorem szf_le (k f : Nat) (hk : k < 30) (hf : f < 7) : szf k f ≤ 2000 := by
  have h : ((List.range 30).all fun k => (List.range 7).all fun f => decide (szf k f ≤ 2000)) = true := by decide +kernel
  have h := List.all_eq_true.1 (List.all_eq_true.1 h k (List.mem_range.2 hk)) f (List.mem_range.2 hf)
  simpa using h
/-- Whether a shape allows size k: any 0, squares 1, rectangles 2. -/
def sqr (k : Nat) : Bool := szf k 0 == szf k 1
def fitsB (k shape : Nat) : Bool := shape == 0 || shape == 1 && sqr k || shape == 2 && !sqr k
/-- The most words of data of the first k sizes. -/
def most (shape : Nat) : Nat → Nat
  | 0 => 0
  | k + 1 => if fitsB k shape then max (most shape k) (szf k 4) else most shape k
theorem most_le (shape : Nat) : ∀ k, k ≤ 30 → most shape k ≤ 2000
  | 0, _ => by simp [most]
  | k + 1, h => by
    have := most_le shape k (by omega)
    have := szf_le k 4 (by omega) (by omega)
    unfold most; split <;> omega

/-- The code's table: 1 for a rectangle, words of data, of error correction, width and height of a region, regions, words of data and of error correction of a block, and the function that tells the blocks. -/
def inf : List (List Nat) := [
  [0, 3, 5, 8, 8, 1, 3, 5, 33], [0, 5, 7, 10, 10, 1, 5, 7, 33], [1, 5, 7, 16, 6, 1, 5, 7, 33], [0, 8, 10, 12, 12, 1, 8, 10, 33], [1, 10, 11, 14, 6, 2, 10, 11, 33], [0, 12, 12, 14, 14, 1, 12, 12, 33],
  [1, 16, 14, 24, 10, 1, 16, 14, 33], [0, 18, 14, 16, 16, 1, 18, 14, 33], [0, 22, 18, 18, 18, 1, 22, 18, 33], [1, 22, 18, 16, 10, 2, 22, 18, 33], [0, 30, 20, 20, 20, 1, 30, 20, 33], [1, 32, 24, 16, 14, 2, 32, 24, 33],
  [0, 36, 24, 22, 22, 1, 36, 24, 33], [0, 44, 28, 24, 24, 1, 44, 28, 33], [1, 49, 28, 22, 14, 2, 49, 28, 33], [0, 62, 36, 14, 14, 4, 62, 36, 33], [0, 86, 42, 16, 16, 4, 86, 42, 33], [0, 114, 48, 18, 18, 4, 114, 48, 33],
  [0, 144, 56, 20, 20, 4, 144, 56, 33], [0, 174, 68, 22, 22, 4, 174, 68, 33], [0, 204, 84, 24, 24, 4, 102, 42, 33], [0, 280, 112, 14, 14, 16, 140, 56, 33], [0, 368, 144, 16, 16, 16, 92, 36, 33], [0, 456, 192, 18, 18, 16, 114, 48, 33],
  [0, 576, 224, 20, 20, 16, 144, 56, 33], [0, 696, 272, 22, 22, 16, 174, 68, 33], [0, 816, 336, 24, 24, 16, 136, 56, 33], [0, 1050, 408, 18, 18, 36, 175, 68, 33], [0, 1304, 496, 20, 20, 36, 163, 62, 33], [0, 1558, 620, 22, 22, 36, 0, 62, 35]]
def inn (k j : Nat) : Nat := (inf.getD k []).getD j 0
def hreg (r : Nat) : Nat := if r = 1 then 1 else if r = 2 ∨ r = 4 then 2 else if r = 16 then 4 else if r = 36 then 6 else 0
def vreg (r : Nat) : Nat := if r = 1 ∨ r = 2 then 1 else if r = 4 then 2 else if r = 16 then 4 else if r = 36 then 6 else 0
end Go.Proofs.YtfmjkflihnfneaaDoor
