/-
  Seat b6616866a: the plain side: how many parts, which parts. No program in sight but the shape of a slice value.
-/
import Derived.WalkKit
namespace Go.Proofs.Qxb6616866a

/-- how many parts n bytes make -/
def cnt (n : Nat) : Nat := if n = 0 then 1 else (n + 1184) / 1185

theorem lt_cnt (n k : Nat) : k < cnt n ↔ k = 0 ∨ 1185 * k < n := by
  unfold cnt; split <;> omega

theorem cnt_le (n : Nat) : cnt n ≤ n + 1 := by
  unfold cnt; split <;> omega

/-- the length of part j of n bytes -/
def pl (n j : Nat) : Nat := min n (1185 * j + 1185) - 1185 * j

/-- part j of a slice value -/
def part (a : Option Addr) (n c j : Nat) : Value :=
  .slice (if j = 0 then a else a.map (fun x => x.add (1185 * j))) (pl n j) (c - 1185 * j)

def firstOf (j : Nat) : Value := .int .i64 (1185 * (j : Int) * 8)

def firsts (k : Nat) : List Value := (List.range k).map firstOf
def parts (a : Option Addr) (n c k : Nat) : List Value := (List.range k).map (part a n c)

theorem firsts_succ (k : Nat) : firsts (k + 1) = firsts k ++ [firstOf k] := by simp [firsts, List.range_succ]
theorem parts_succ (a : Option Addr) (n c k : Nat) : parts a n c (k + 1) = parts a n c k ++ [part a n c k] := by simp [parts, List.range_succ]
theorem firsts_get (k j : Nat) (h : j < k) : (firsts k)[j]? = some (firstOf j) := by simp [firsts, h]
theorem parts_get (a : Option Addr) (n c k j : Nat) (h : j < k) : (parts a n c k)[j]? = some (part a n c j) := by simp [parts, h]

theorem part_zero (a : Option Addr) (n c : Nat) : part a n c 0 = .slice a (pl n 0) c := by simp [part]
theorem part_pos (a : Option Addr) (n c j : Nat) (h : ¬ j = 0) : part a n c j = .slice (a.map (fun x => x.add (1185 * j))) (pl n j) (c - 1185 * j) := by simp [part, h]

end Go.Proofs.Qxb6616866a
