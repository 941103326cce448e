/- The cells of an empty queue: 16388 of them, checked by the kernel in one pass (seat b6617448a). -/
import Derived.Test.Qxb6617448aRows
import Derived.WalkKit
namespace Go.Proofs.Qxb6617448a
open Go.RowKit

def isNilP : Value → Bool
  | .pointer none => true
  | _ => false
/-- The first n are nil pointers; the rest. -/
def skipNil : Nat → List Value → Option (List Value)
  | 0, l => some l
  | n + 1, x :: l => if isNilP x then skipNil n l else none
  | _ + 1, [] => none

/-- The cells of a struct's zero value. -/
def cellsOf : Option Value → List Value
  | some (.agg a) => a.toList
  | _ => []

def lastTwo : List Value → Bool
  | [.slice none 0 0, .int .i64 0] => true
  | _ => false
def chk : List Value → Bool
  | .slice none 0 0 :: .map none :: l => match skipNil 16384 l with | some r => lastTwo r | none => false
  | _ => false
set_option maxRecDepth 1000000 in
theorem chk_zero : chk (cellsOf Try.t45.zero) = true := by kernel_rfl
set_option maxRecDepth 1000000 in
theorem build45 (w : World) : (Instr.build 45 #[]).run Try.prog w = .ok (.agg (cellsOf Try.t45.zero).toArray) w := by kernel_rfl

/-- The cells of an empty queue. -/
def ZQ : List Value := .slice none 0 0 :: .map none :: (List.replicate 16384 (.pointer none) ++ [.slice none 0 0, .int .i64 0])

theorem skipNil_eq : ∀ (n : Nat) (l r : List Value), skipNil n l = some r → l = List.replicate n (.pointer none) ++ r
  | 0, l, r, h => by simp [skipNil] at h; simp [h]
  | n + 1, [], r, h => by simp [skipNil] at h
  | n + 1, x :: l, r, h => by
    simp only [skipNil] at h
    split at h
    · rename_i hx
      have : x = .pointer none := by
        cases x <;> simp [isNilP] at hx
        rename_i a
        cases a <;> simp_all
      subst this
      rw [skipNil_eq n l r h, List.replicate_succ]
      rfl
    · cases h

theorem lastTwo_eq {l : List Value} (h : lastTwo l = true) : l = [.slice none 0 0, .int .i64 0] := by
  unfold lastTwo at h
  split at h
  · rfl
  · cases h

theorem zero_cells : (cellsOf Try.t45.zero) = ZQ := by
  have h := chk_zero
  generalize (cellsOf Try.t45.zero) = Z at *
  unfold chk at h
  split at h
  · split at h
    · rename_i l _ r hr
      rw [skipNil_eq _ _ _ hr, lastTwo_eq h]
      rfl
    · cases h
  · cases h
end Go.Proofs.Qxb6617448a
