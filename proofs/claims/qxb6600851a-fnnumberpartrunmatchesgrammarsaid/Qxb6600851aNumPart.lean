import Derived.Test.Qxb6600851aRows
import Derived.WalkKit
import Derived.WalkSpells
import Derived.ProofKit
namespace Go.Proofs.Qxb6600851a.NumPart
open Go.RowKit
set_option linter.unusedSimpArgs false

/-- What numberPart computes: the part of a number that the byte c, read at offset p, goes on after part. -/
def np (part c p : Int) : Int × Bool :=
  if part = 0 ∧ c = 45 ∧ p = 0 then (0, true)
  else if part = 0 ∧ c = 48 then (1, true)
  else if part = 0 ∧ 48 ≤ c ∧ c ≤ 57 then (2, true)
  else if part = 2 ∧ 48 ≤ c ∧ c ≤ 57 then (2, true)
  else if (part = 1 ∨ part = 2) ∧ c = 46 then (3, true)
  else if (part = 3 ∨ part = 4) ∧ 48 ≤ c ∧ c ≤ 57 then (4, true)
  else if (part = 1 ∨ part = 2 ∨ part = 4) ∧ (c = 101 ∨ c = 69) then (5, true)
  else if part = 5 ∧ (c = 43 ∨ c = 45) then (6, true)
  else if (part = 5 ∨ part = 6 ∨ part = 7) ∧ 48 ≤ c ∧ c ≤ 57 then (7, true)
  else (part, false)

theorem np_end {e : Ending} {w w' : World} {a b : Int × Bool} (h : e = .returned (.tuple #[.int .i64 a.1, .bool a.2])) (hab : a = b) (hw : w' = w) :
    e = .returned (.tuple #[.int .i64 b.1, .bool b.2]) ∧ w' = w := by subst hab; exact ⟨h, hw⟩

theorem ret_np {a : Int × Bool} {i : Int} {b : Bool} (h : a = (i, b)) : Ending.returned (.tuple #[.int .i64 i, .bool b]) = .returned (.tuple #[.int .i64 a.1, .bool a.2]) := by rw [h]

set_option maxHeartbeats 400000 in
theorem np0 (c p : Int) (w : World) :
    Calls Try.prog 23 #[.int .i64 0, .int .u8 c, .int .i64 p] w fun e w' => e = .returned (.tuple #[.int .i64 (np 0 c p).1, .bool (np 0 c p).2]) ∧ w' = w := by
  go_enter Try.func23, Try.ntmps23
  go_wp2
  all_goals
    go_ret2
    refine ⟨ret_np ?_, rfl⟩
    try simp only [beq_iff_eq, beq_eq_false_iff_ne] at *
    unfold np
    repeat' split
    all_goals first | rfl | (exfalso; omega)

set_option maxHeartbeats 400000 in
theorem np1 (c p : Int) (w : World) :
    Calls Try.prog 23 #[.int .i64 1, .int .u8 c, .int .i64 p] w fun e w' => e = .returned (.tuple #[.int .i64 (np 1 c p).1, .bool (np 1 c p).2]) ∧ w' = w := by
  go_enter Try.func23, Try.ntmps23
  go_wp2
  all_goals
    go_ret2
    refine ⟨ret_np ?_, rfl⟩
    try simp only [beq_iff_eq, beq_eq_false_iff_ne] at *
    unfold np
    repeat' split
    all_goals first | rfl | (exfalso; omega)

set_option maxHeartbeats 400000 in
theorem np2 (c p : Int) (w : World) :
    Calls Try.prog 23 #[.int .i64 2, .int .u8 c, .int .i64 p] w fun e w' => e = .returned (.tuple #[.int .i64 (np 2 c p).1, .bool (np 2 c p).2]) ∧ w' = w := by
  go_enter Try.func23, Try.ntmps23
  go_wp2
  all_goals
    go_ret2
    refine ⟨ret_np ?_, rfl⟩
    try simp only [beq_iff_eq, beq_eq_false_iff_ne] at *
    unfold np
    repeat' split
    all_goals first | rfl | (exfalso; omega)

set_option maxHeartbeats 400000 in
theorem np3 (c p : Int) (w : World) :
    Calls Try.prog 23 #[.int .i64 3, .int .u8 c, .int .i64 p] w fun e w' => e = .returned (.tuple #[.int .i64 (np 3 c p).1, .bool (np 3 c p).2]) ∧ w' = w := by
  go_enter Try.func23, Try.ntmps23
  go_wp2
  all_goals
    go_ret2
    refine ⟨ret_np ?_, rfl⟩
    try simp only [beq_iff_eq, beq_eq_false_iff_ne] at *
    unfold np
    repeat' split
    all_goals first | rfl | (exfalso; omega)

set_option maxHeartbeats 400000 in
theorem np4 (c p : Int) (w : World) :
    Calls Try.prog 23 #[.int .i64 4, .int .u8 c, .int .i64 p] w fun e w' => e = .returned (.tuple #[.int .i64 (np 4 c p).1, .bool (np 4 c p).2]) ∧ w' = w := by
  go_enter Try.func23, Try.ntmps23
  go_wp2
  all_goals
    go_ret2
    refine ⟨ret_np ?_, rfl⟩
    try simp only [beq_iff_eq, beq_eq_false_iff_ne] at *
    unfold np
    repeat' split
    all_goals first | rfl | (exfalso; omega)

set_option maxHeartbeats 400000 in
theorem np5 (c p : Int) (w : World) :
    Calls Try.prog 23 #[.int .i64 5, .int .u8 c, .int .i64 p] w fun e w' => e = .returned (.tuple #[.int .i64 (np 5 c p).1, .bool (np 5 c p).2]) ∧ w' = w := by
  go_enter Try.func23, Try.ntmps23
  go_wp2
  all_goals
    go_ret2
    refine ⟨ret_np ?_, rfl⟩
    try simp only [beq_iff_eq, beq_eq_false_iff_ne] at *
    unfold np
    repeat' split
    all_goals first | rfl | (exfalso; omega)

set_option maxHeartbeats 400000 in
theorem np6 (c p : Int) (w : World) :
    Calls Try.prog 23 #[.int .i64 6, .int .u8 c, .int .i64 p] w fun e w' => e = .returned (.tuple #[.int .i64 (np 6 c p).1, .bool (np 6 c p).2]) ∧ w' = w := by
  go_enter Try.func23, Try.ntmps23
  go_wp2
  all_goals
    go_ret2
    refine ⟨ret_np ?_, rfl⟩
    try simp only [beq_iff_eq, beq_eq_false_iff_ne] at *
    unfold np
    repeat' split
    all_goals first | rfl | (exfalso; omega)

set_option maxHeartbeats 400000 in
theorem np7 (c p : Int) (w : World) :
    Calls Try.prog 23 #[.int .i64 7, .int .u8 c, .int .i64 p] w fun e w' => e = .returned (.tuple #[.int .i64 (np 7 c p).1, .bool (np 7 c p).2]) ∧ w' = w := by
  go_enter Try.func23, Try.ntmps23
  go_wp2
  all_goals
    go_ret2
    refine ⟨ret_np ?_, rfl⟩
    try simp only [beq_iff_eq, beq_eq_false_iff_ne] at *
    unfold np
    repeat' split
    all_goals first | rfl | (exfalso; omega)

set_option maxHeartbeats 400000 in
theorem npx (part c p : Int) (h : part < 0 ∨ 7 < part) (w : World) :
    Calls Try.prog 23 #[.int .i64 part, .int .u8 c, .int .i64 p] w fun e w' => e = .returned (.tuple #[.int .i64 (np part c p).1, .bool (np part c p).2]) ∧ w' = w := by
  have h0 : (part == 0) = false := beq_eq_false_iff_ne.2 (by omega)
  have h1 : (part == 1) = false := beq_eq_false_iff_ne.2 (by omega)
  have h2 : (part == 2) = false := beq_eq_false_iff_ne.2 (by omega)
  have h3 : (part == 3) = false := beq_eq_false_iff_ne.2 (by omega)
  have h4 : (part == 4) = false := beq_eq_false_iff_ne.2 (by omega)
  have h5 : (part == 5) = false := beq_eq_false_iff_ne.2 (by omega)
  have h6 : (part == 6) = false := beq_eq_false_iff_ne.2 (by omega)
  have h7 : (part == 7) = false := beq_eq_false_iff_ne.2 (by omega)
  go_enter Try.func23, Try.ntmps23
  go_wp2
  all_goals
    go_ret2
    refine ⟨ret_np ?_, rfl⟩
    try simp only [beq_iff_eq, beq_eq_false_iff_ne] at *
    unfold np
    repeat' split
    all_goals first | rfl | (exfalso; omega)

/-- numberPart, whatever its arguments. -/
theorem numberPart_any (part c p : Int) (w : World) :
    Calls Try.prog 23 #[.int .i64 part, .int .u8 c, .int .i64 p] w fun e w' => e = .returned (.tuple #[.int .i64 (np part c p).1, .bool (np part c p).2]) ∧ w' = w := by
  by_cases h : part < 0 ∨ 7 < part
  · exact npx part c p h w
  · obtain rfl | rfl | rfl | rfl | rfl | rfl | rfl | rfl : part = 0 ∨ part = 1 ∨ part = 2 ∨ part = 3 ∨ part = 4 ∨ part = 5 ∨ part = 6 ∨ part = 7 := by omega
    · exact np0 c p w
    · exact np1 c p w
    · exact np2 c p w
    · exact np3 c p w
    · exact np4 c p w
    · exact np5 c p w
    · exact np6 c p w
    · exact np7 c p w

/-- The shim ZZnumberPart hands on. -/
theorem zz_any (part c p : Int) (w : World) :
    Calls Try.prog 17 #[.int .i64 part, .int .u8 c, .int .i64 p] w fun e w' => e = .returned (.tuple #[.int .i64 (np part c p).1, .bool (np part c p).2]) ∧ w' = w := by
  go_enter Try.func17, Try.ntmps17
  go_wp2_with (go_at_call 23; refine (numberPart_any _ _ _ _).mono ?_; rintro e w' ⟨rfl, rfl⟩)
  go_ret2
  exact ⟨rfl, rfl⟩
end Go.Proofs.Qxb6600851a.NumPart
